import JvmDerived
import JvmDerived.Pilot.@@N@@Statement
import JvmDerived.Pilot.@@N@@Code
set_option linter.unusedVariables false
set_option linter.unusedSimpArgs false
namespace Jvm.Pilot.@@N@@
open Jvm Jvm.ClassFile Sem Op Lib Jvm.Free Jvm.Stand Jvm.LawKit Jvm.RoadKit Bundle Jvm.Pilot.@@N@@.Jvm.D
theorem hwk {ts : List Jvm.Cond} {a0 : Array Value} {Z : State} (hw : ∀ d ∈ ts, d.before a0 Z = true) (i : Nat) {d : Jvm.Cond} (h : ts[i]? = some d) : d.before a0 Z = true := hw d (List.mem_of_getElem? h)
theorem old_le {Z : State} {n0 : Nat} {h : Heap} (O : Old Z n0 h) : n0 ≤ h.size := O.1 ▸ O.2.1
theorem narrow_refV {t : FieldType} {v : Value} (ht : t.isReference = true) (hv : v.isRef = true) : narrow t v = v := by rcases ref_cases hv with rfl | ⟨a, rfl⟩ <;> cases t <;> first | rfl | cases ht
theorem fits_refV {t : FieldType} {v : Value} (ht : t.isReference = true) (hv : v.isRef = true) : fits t v = true := by rcases ref_cases hv with rfl | ⟨a, rfl⟩ <;> cases t <;> first | rfl | cases ht
def SameStand {p : Program} {l : Launch} {e : Env} {R : Room} {s : State} {m : MethodId} {args : Array Value} {below : List Frame} {meth : Method} {c : Code} {T : State} {locs : List Loc} {cells slots : Nat} (_ : Stand p l e R s m args below meth c T locs cells slots) (T' : State) : Prop := Stand p l e R s m args below meth c T' locs cells slots
def WideStand {p : Program} {l : Launch} {e : Env} {R : Room} {s : State} {m : MethodId} {args : Array Value} {below : List Frame} {meth : Method} {c : Code} {T : State} {locs : List Loc} {cells slots : Nat} (_ : Stand p l e R s m args below meth c T locs cells slots) (s' T' : State) (dc ds : Nat) : Prop := Stand p l e R s' m args below meth c T' locs (cells + dc) (slots + ds)
def JoinStand {p : Program} {l : Launch} {e : Env} {R : Room} {s : State} {m : MethodId} {args : Array Value} {below : List Frame} {meth : Method} {c : Code} {T : State} {locs : List Loc} {cells slots : Nat} (_ : Stand p l e R s m args below meth c T locs cells slots) (s' T' : State) (L' : List Loc) (dc ds : Nat) : Prop := Stand p l e R s' m args below meth c T' (locs ++ L') (cells + dc) (slots + ds)
theorem own_jn {p : Program} {l : Launch} {e : Env} {R : Room} {s : State} {m : MethodId} {args : Array Value} {below : List Frame} {meth : Method} {c : Code} {T : State} {locs : List Loc} {cells slots : Nat} (X : Stand p l e R s m args below meth c T locs cells slots) : Stand p l e R s m args below meth c T (locs ++ []) cells slots := by rw [List.append_nil]; exact X
def OptExa (Z : State) (h : Heap) (v : Value) (C : String) : Prop := ∀ a, v = .ref a → Exa Z h a C
theorem own_mext {Z : State} {h h' : Heap} {v : Value} {C : String} (E : Ext h h') (F : OptExa Z h v C) : OptExa Z h' v C := fun a q => Exa.ext E (F a q)
theorem own_mwr {Z : State} {h h' : Heap} {v w : Value} {C : String} {b : Addr} {sl : Nat} (W : Wr h h' b sl w) (F : OptExa Z h v C) : OptExa Z h' v C := fun a q => Exa.wr W (F a q)
theorem own_mkeep {Z : State} {h h' : Heap} {v : Value} {C : String} {ws : List Addr} (K : Keep h h' ws) (F : OptExa Z h v C) : OptExa Z h' v C := fun a q => Exa.keep (F a q) K
theorem own_mnull {Z : State} {h : Heap} {C : String} : OptExa Z h .null C := fun a q => by cases q
theorem own_mref {Z : State} {h : Heap} {x : Addr} {C : String} (E : Exa Z h x C) : OptExa Z h (.ref x) C := fun a q => by cases q; exact E
theorem own_sf {P : Addr → Prop} {y : Addr} {L : List Addr} (q : P y) (r : ∀ x ∈ L, P x) : ∀ x ∈ y :: L, P x := fun x z => (List.mem_cons.mp z).elim (fun u => u ▸ q) (r x)
theorem own_ext {h h' h'' : Heap} (a : Ext h h') (b : Ext h' h'') : Ext h h'' := ⟨Nat.le_trans a.1 b.1, fun x c q => b.2 x c (a.2 x c q)⟩
theorem own_ite {c : Prop} [Decidable c] {a b : Value} (ha : a.isRef = true) (hb : b.isRef = true) : (if c then a else b).isRef = true := by split <;> assumption
theorem own_eqI {args : Array Value} {s : State} {a b : Term} {n : Int32} (h : (Jvm.Cond.eq a b).value args s none s [] = some true) (hb : b.eval args s none [] s = some (.int n)) : a.eval args s none [] s = some (.int n) := by
  obtain ⟨x, y, h1, h2, h3, h4⟩ := cmp_v (Or.inl h)
  cases h2.symm.trans hb
  obtain ⟨z, rfl⟩ := h4
  have q := gotT (Jvm.Cond.eq_ints h1 hb) h
  rw [h1, q]
theorem own_eqR {args : Array Value} {s : State} {a b : Term} {x y : Value} (h : (Jvm.Cond.eq a b).value args s none s [] = some true) (ha : a.eval args s none [] s = some x) (hb : b.eval args s none [] s = some y) (hx : x.isRef = true) (hy : y.isRef = true) : x = y := gotT (eq_R ha hb hx hy) h
theorem own_neR {args : Array Value} {s : State} {a b : Term} {x y : Value} (h : (Jvm.Cond.not (Jvm.Cond.eq a b)).value args s none s [] = some true) (ha : a.eval args s none [] s = some x) (hb : b.eval args s none [] s = some y) (hx : x.isRef = true) (hy : y.isRef = true) : ¬ x = y := gotF (eq_R ha hb hx hy) (not_v h)
/-- a link through a superinterface, whatever plain road of access it takes -/
theorem own_linksFF {s : State} {args : Array Value} {own : String} {x : MethodName} {index d c : Nat} {ck ok : Class} {meth : Method} {mf : MethodId} (hd : s.vm.findClass own = some d) (hc : s.vm.findClass x.cls = some c) (hck : s.vm.classes[c]? = some ck) (hvi : ck.isInterface = true) (hnc : (x.name == "clone") = false) (hnone : ck.findMethod x.name x.desc = none)
    (hf : s.methodFound? x.cls x.name x.desc = some mf) (hok : s.vm.classes[mf.cls]? = some ok) (hm : ok.methods[mf.idx]? = some meth) (hx : x.cls ≠ "java/lang/invoke/MethodHandle" ∧ x.cls ≠ "java/lang/invoke/VarHandle")
    (h : (Jvm.Cond.methodLink own index x).before args s = true) (pl : Platform) (hpl : pl.magicAccessors = ({} : Platform).magicAccessors) : ∃ ci, s.vm.MethodLinksFF pl d index ci c mf ∧ s.rightAt d index (.method mf) = true := by
  obtain ⟨k0, hk0, hname⟩ := Vm.findClass_spec hc
  cases hck.symm.trans hk0
  have hmeth : s.vm.method? mf = some meth := by simp [Vm.method?, hok, hm]
  have h2 := Cond.before_iff.mp h
  simp only [Cond.value, hd, hc, hf] at h2
  split at h2
  case h_2 => cases h2
  rename_i ci via d1 c1 m1 e1 e2 e3 e4
  cases e2; cases e3; cases e4
  simp only [Option.bind_eq_bind, Option.bind_eq_some_iff, Option.pure_def, Option.some.injEq, Bool.and_eq_true, Bool.or_eq_true, beq_iff_eq, hck, hok, hmeth, exists_eq_left'] at h2
  obtain ⟨linked, g1, dk, g2, ⟨⟨⟨⟨⟨⟨⟨r1, r2⟩, r3⟩, r4⟩, -⟩, -⟩, r5⟩, r6⟩⟩ := h2
  subst r1
  replace r6 : plainAccess s.vm meth.accessFlags mf.cls ok c d dk = true := r6.elim id fun q => by simp [beq_eq_false_iff_ne.mp hnc] at q
  obtain ⟨cr, u1, u2⟩ := State.classLinks_spec hd g1 pl hpl
  cases hc.symm.trans u1
  obtain ⟨cp, v1, v2⟩ := State.names_spec r2
  obtain ⟨dk2, cf, v3, v4, v5⟩ := State.poolOf?_spec hd v1
  cases g2.symm.trans v3
  obtain ⟨ci2, nt, v6, v7, -⟩ := namesOf?_method v2
  subst v5
  have e5 : cf.constantPool[index]? = some (.interfaceMethodref ci nt) := by
    rw [hvi] at r4
    subst r4
    rcases v6 with q | q <;> simp [State.memberEntry?, v1, q] at e1
    subst e1; exact q
  obtain ⟨dk3, cf3, nm3, _, w1, w2, w3, w4, _⟩ := u2.here
  cases g2.symm.trans w1
  cases v4.symm.trans w2
  have hne : ci ≠ index := fun q => by
    subst q
    simp [ConstantPool.className?, e5] at w4
  have hplain : s.vm.Plain meth.accessFlags mf.cls ok c d dk := by simpa [Vm.Plain, plainAccess, or_assoc, and_assoc] using r6
  have hl3 : dk.loader = ok.loader := by rw [w3]; symm; simpa using r5
  exact ⟨ci, ⟨dk, cf, nt, x.name, x.desc, ck, ok, meth, g2, v4, e5, v7, u2, hne, hck, hvi, fun y => by simp [signaturePolymorphic, hname, hx.1, hx.2], hnone, State.faceFind_of_found hc hck hvi (fun y => by simp [signaturePolymorphic, hname, hx.1, hx.2]) hnone hf, hok, hm, hl3, hplain, State.openOr_spec hd g2 r3⟩, by simp [State.rightAt, g2, v4, v2, hf]⟩
theorem own_faceUp {p : Program} {l : Launch} {e : Env} {R : Room} {s : State} {m : MethodId} {args : Array Value} {below : List Frame} {meth : Method} {c : Code} {T : State} {locs : List Loc} {cells slots : Nat}
    (X : Stand p l e R s m args below meth c T locs cells slots) (hx : p.tables.exec = Jvm.exec) {own C J : String} {index count : Nat} {xi y : MethodName} (hown : s.vm.findClass own = some m.cls) (w1 : (Jvm.Cond.methodLink own index xi).before args s = true) (w2 : (Jvm.Cond.declares ⟨J, xi.name, xi.desc⟩).before args s = true)
    (w3 : (Jvm.Cond.interfaceMethod xi.cls J xi.name xi.desc).before args s = true) (hxo : xi.cls ≠ J) (hnc : (xi.name == "clone") = false) (w4 : (Jvm.Cond.selects C xi y).before args s = true) (w5 : (Jvm.Cond.instanceMethod y).before args s = true) (w6 : (Jvm.Cond.publicMethod y).before args s = true) (w7 : (Jvm.Cond.unhidden C xi.name xi.desc).before args s = true)
    (w8 : (Jvm.Cond.castable C xi.cls).before args s = true) (hnh : xi.cls ≠ "java/lang/invoke/MethodHandle" ∧ xi.cls ≠ "java/lang/invoke/VarHandle") {W : Nat} {Pre : Pt → Array Value → Prop} {Post : Pt → Array Value → Option Value → Pt → Prop} (hK : Back l R p e below s args y 5 W Pre Post)
    {b : Addr} {cB : ClassId} {kB : Class} (hcB : s.vm.findClass C = some cB) (hkB : s.vm.classes[cB]? = some kB) (hrecv : IsOf cB T b) {g : JFrame} (hg : g.method = m) (hsize : g.locals.size = c.maxLocals) {s₀ : State} (hcome : Steps p.tables e below s₀ (T.setTop g)) {argsL rest : List Value}
    (hlen : ∀ sig, parseMethodDescriptor xi.desc = some sig → argsL.length = sig.parameters.length) (hstack : g.stack = argsL.reverse ++ .ref b :: rest) (hW : 2 * g.monitorRoom + (rest.map fun v => v.category).sum ≤ W) (hdg : decode c.code g.pc = .ok (.invokeinterface index count, 5)) (hpre : ∀ vm₁, s.WarmedH vm₁ → Pre ⟨T.setVm vm₁, locs, cells, slots⟩ (.ref b :: argsL).toArray) :
    ∃ (v : Option Value) (vm₁ : Vm) (B : Pt), s.WarmedH vm₁ ∧ Stand p l e R s m args below meth c B.U B.locs B.cells B.slots ∧ Post ⟨T.setVm vm₁, locs, cells, slots⟩ (.ref b :: argsL).toArray v B ∧ Steps p.tables e below s₀ (B.U.setTop { g with pc := g.pc + 5, stack := v.toList ++ rest }) := by
  subst hg
  obtain ⟨cell, b1, b2, b3⟩ := hrecv
  obtain ⟨rj, mj, j1, j2, j3, j4⟩ := Cond.declares_spec w2
  obtain ⟨cI, kI, r1, i1, i2, i3, i4, i5⟩ := Cond.interfaceMethod_spec w3
  cases j1.symm.trans i5
  obtain ⟨oj, o1, o2⟩ := className_of_methodNamed j1
  obtain ⟨kI2, i6, i7⟩ := Vm.findClass_spec i1
  cases i2.symm.trans i6
  have hom : oj.methods[rj.idx]? = some mj := by simpa [Vm.method?, o1] using j2
  have hnone : kI.findMethod xi.name xi.desc = none := by
    cases q : kI.findMethod xi.name xi.desc with
    | none => rfl
    | some j =>
      exfalso
      have q2 := State.methodFound?_declared i1 i2 (fun y => by simp [signaturePolymorphic, i7, hnh.1, hnh.2]) q (by obtain ⟨hlt, -, -⟩ := Array.findIdx?_eq_some_iff_getElem.mp q; simp [hlt])
      have q3 : rj = ⟨cI, j⟩ := Option.some.inj (i4.symm.trans q2)
      rw [q3] at o1
      cases i2.symm.trans o1
      exact hxo (i7.symm.trans o2)
  obtain ⟨ci, hl, hright⟩ := own_linksFF hown i1 i2 i3 hnc hnone i4 o1 hom hnh w1 e.platform (by rw [X.admits.platform])
  have hE : s.MethodEntryUp e T.vm g.method.cls index cI rj ci := State.methodEntryFF X.warmed hl hright
  obtain ⟨mk, my, y1, y2, -, y3⟩ := Cond.instanceMethod_spec w5
  obtain ⟨c2, r2, m2, q1, q2, q3, q4, -⟩ := Cond.selects_spec w4
  cases hcB.symm.trans q1
  cases i4.symm.trans q2
  cases y1.symm.trans q3
  obtain ⟨n1, n2⟩ := name_of_methodNamed j1 j2
  obtain ⟨c3, t3, a1, a2, a3⟩ := Cond.castable_spec w8
  cases hcB.symm.trans a1
  cases i1.symm.trans a2
  obtain ⟨dk, cf, nt, _, _, ck, _, _, f1, f2, f3, -, -, -, f4, f5, -⟩ := hl.here
  cases i2.symm.trans f4
  have al := hE.warmed.alike
  obtain ⟨dk2, z1, z2⟩ := hE.classReady
  obtain ⟨dk3, z3, z4⟩ := al.2.2 _ _ f1
  cases z1.symm.trans z3
  obtain ⟨ck2, z5, z6⟩ := al.2.2 _ _ f4
  obtain ⟨kc2, z7, -⟩ := al.2.2 _ _ hkB
  have X₁ := X.noted hE.warmed
  obtain ⟨v, B, X', hpost, hsteps⟩ := hK g.method meth c ⟨T.setVm (T.vm.calledUp g.method.cls ci index cI rj), locs, cells, slots⟩ { g with stack := rest } (.invokeinterface index count) mk (Value.ref b :: argsL).toArray X₁ rfl hsize hdg hW (X₁.named y1) (hpre (T.vm.calledUp g.method.cls ci index cI rj) hE.warmed)
  refine ⟨v, T.vm.calledUp g.method.cls ci index cI rj, B, hE.warmed, X', hpost, (hcome.trans ?_).trans hsteps⟩
  have key : ∀ target, (∀ acts, Steps p.tables e below (doInvoke e ((T.setVm (T.vm.calledUp g.method.cls ci index cI rj)).setTop { g with stack := rest }) acts mk (.ref b :: argsL).toArray).1 target) → Steps p.tables e below (T.setTop g) target := fun target hrest => by
    jvm_step X.here [hx, hdg, invokeinterface.wp_coldFace (e := e) (s := T) (s₀ := s) (f := g) (count := count) X.here.top X.warmed hE f1 f2 (Or.inr f3) f4 f5,
      invokeinterface.wp_ready (e := e) (s := T.setVm (T.vm.calledUp g.method.cls ci index cI rj)) (f := g) (count := count) (r := mj) (meth := my) (m := mk) (args := argsL) (rest := rest) (cell := cell) (kcell := kc2) (ck := dk2) (nk := ck2) (cf := cf) (ci := ci) (nt := nt) (named := cI)
        X.here.top hE.ready (by show (T.vm.calledUp g.method.cls ci index cI rj).method? rj = some mj; rw [al.method?]; exact j2) j3 (hlen _ j4) hstack b1 (fun z q => by rw [q] at b3; cases b3) (by rw [b2]; exact z7) z1 (by rw [z4]; exact f2) f3 z2 z5 (by rw [z6]; exact f5)
        (by show (T.vm.calledUp g.method.cls ci index cI rj).assignable cell.cls cI = true; rw [al.assignable, b2]; exact a3)
        (by show selectMethod e.platform (T.vm.calledUp g.method.cls ci index cI rj) cell.cls rj = .method mk; rw [al.selectMethod, Launch.admits_selectMethod X.admits, b2]; exact q4)
        (by show (T.vm.calledUp g.method.cls ci index cI rj).method? mk = some my; rw [al.method?]; exact y2)
        (Or.inr (Or.inr (by show ((cell.cls :: (T.vm.calledUp g.method.cls ci index cI rj).superclasses cell.cls).any fun k => (declaredIn (T.vm.calledUp g.method.cls ci index cI rj) mj.name mj.desc k).any fun (_, z) => z.isPrivate || z.isStatic) = false; simp only [al.superclasses, al.declaredIn]; rw [n1, n2, b2]; exact Cond.unhidden_spec hcB w7)))
        (Or.inl (Cond.publicMethod_spec y1 y2 w6)) y3]
    exact hrest
  exact key _ fun acts => by rw [doInvoke_state]; exact Steps.refl _
/-- a constructor through an entry that has been resolved -/
theorem own_specialRef {p : Program} {l : Launch} {e : Env} {R : Room} {s : State} {m : MethodId} {args : Array Value} {below : List Frame} {meth : Method} {c : Code} {T : State} {locs : List Loc} {cells slots : Nat}
    (X : Stand p l e R s m args below meth c T locs cells slots) (hx : p.tables.exec = Jvm.exec) {own : String} {index : Nat} {y : MethodName} (hy1 : y.name = "<init>") (hown : s.vm.findClass own = some m.cls) (w1 : (Jvm.Cond.methodRef own index y).before args s = true) (w2 : (Jvm.Cond.instanceMethod y).before args s = true)
    {bytes : ByteArray} {maxL : Nat} (w3 : (Jvm.Cond.code y bytes maxL none).before args s = true) (hy : y.cls ≠ "java/lang/invoke/MethodHandle" ∧ y.cls ≠ "java/lang/invoke/VarHandle") {W : Nat} {Pre : Pt → Array Value → Prop} {Post : Pt → Array Value → Option Value → Pt → Prop} (hK : Back l R p e below s args y 3 W Pre Post)
    {g : JFrame} (hg : g.method = m) (hsize : g.locals.size = c.maxLocals) {s₀ : State} (hcome : Steps p.tables e below s₀ (T.setTop g)) {a : Addr} {argsL rest : List Value} (hlen : ∀ sig, parseMethodDescriptor y.desc = some sig → argsL.length = sig.parameters.length) (hstack : g.stack = argsL.reverse ++ .ref a :: rest)
    (hW : 2 * g.monitorRoom + (rest.map fun v => v.category).sum ≤ W) (hdg : decode c.code g.pc = .ok (.invokespecial index, 3)) (hpre : ∀ vm₁, s.WarmedH vm₁ → Pre ⟨T.setVm vm₁, locs, cells, slots⟩ (.ref a :: argsL).toArray) :
    ∃ (v : Option Value) (vm₁ : Vm) (B : Pt), s.WarmedH vm₁ ∧ Stand p l e R s m args below meth c B.U B.locs B.cells B.slots ∧ Post ⟨T.setVm vm₁, locs, cells, slots⟩ (.ref a :: argsL).toArray v B ∧ Steps p.tables e below s₀ (B.U.setTop { g with pc := g.pc + 3, stack := v.toList ++ rest }) := by
  subst hg
  obtain ⟨mk, my, y1, y2, y3, y4⟩ := Cond.instanceMethod_spec w2
  obtain ⟨my2, cy, z1, -, -, -, -, -, -, z2⟩ := Cond.code_spec y1 w3
  cases y2.symm.trans z1
  obtain ⟨ky, k1, k2⟩ := className_of_methodNamed y1
  obtain ⟨n1, n2⟩ := name_of_methodNamed y1 y2
  have r1 : (Jvm.Cond.methodRef own index y).before args (s.setVm T.vm) = true := Cond.methodRef_warmed X.warmed y1 hy w1
  have r2 : (s.setVm T.vm).vm.findClass own = some g.method.cls := (X.warmed.alike.findClass _ _).trans hown
  obtain ⟨m2, c2, u1, u2, u3, u4⟩ := Cond.methodRef_named e r2 r1
  have u5 : (s.setVm T.vm).methodNamed? y = some mk := by rw [State.methodNamed?_setVm X.warmed.alike]; exact y1
  have u6 := State.methodFound?_of_named u5 hy
  cases u6.symm.trans u1
  have u7 : c2 = mk.cls := Option.some.inj (u3.symm.trans (findClass_of_methodNamed u5))
  subst u7
  obtain ⟨ky2, k3, -⟩ := X.warmed.alike.2.2 _ _ k1
  have hmT : T.vm.method? mk = some my := by rw [X.warmed.alike.method?]; exact y2
  have hfound : lookupSpecial T.vm mk.cls "<init>" my.desc = .method mk := by rw [X.warmed.alike.lookupSpecial, n2, ← hy1]; exact lookupSpecial_of_named y1 y2 y3
  obtain ⟨v, B, X', hpost, hsteps⟩ := hK g.method meth c ⟨T, locs, cells, slots⟩ { g with stack := rest } (.invokespecial index) mk (Value.ref a :: argsL).toArray X rfl hsize hdg hW (X.named y1) (hpre T.vm X.warmed)
  refine ⟨v, T.vm, B, X.warmed, X', hpost, (hcome.trans ?_).trans hsteps⟩
  have key : ∀ target, (∀ acts, Steps p.tables e below (doInvoke e (T.setTop { g with stack := rest }) acts mk (.ref a :: argsL).toArray).1 target) → Steps p.tables e below (T.setTop g) target := fun target hrest => by
    jvm_step X.here [hx, hdg, invokespecial.wp_init (e := e) (s := T) (k := ky2) (meth := my) (m := mk) (a := a) (args := argsL) (rest := rest) (f := g) X.here.top u4 u2 k3 hmT (by rw [n1]; exact hy1) y3 y4 hfound (hlen _ z2) hstack]
    exact hrest
  exact key _ fun acts => by rw [doInvoke_state]; exact Steps.refl _
theorem own_mvRef {Z s : State} {a0 args : Array Value} {own : String} {index : Nat} {y : MethodName} (hZ : Z.Warmed39 s.vm) (hy : y.cls ≠ "java/lang/invoke/MethodHandle" ∧ y.cls ≠ "java/lang/invoke/VarHandle") (wi : (Jvm.Cond.instanceMethod y).before a0 Z = true) (w : (Jvm.Cond.methodRef own index y).before a0 Z = true) : (Jvm.Cond.methodRef own index y).before args s = true := by
  obtain ⟨mk, my, y1, -⟩ := Cond.instanceMethod_spec wi
  have q := Cond.methodRef_warmed39 hZ y1 hy w
  simp only [Cond.before, Cond.holds, Cond.value] at q ⊢
  exact q

theorem own_str {a0 : Array Value} {Z : State} (hw : ∀ d ∈ tables_1, d.before a0 Z = true) : ∀ a ∈ Bundle.stringAtoms, a.before a0 Z = true := fun a ha => by
  simp only [Bundle.stringAtoms, List.mem_cons, List.not_mem_nil, or_false] at ha
  rcases ha with rfl | rfl | rfl | rfl | rfl | rfl | rfl
  · exact (hwk hw 102 rfl)
  · exact (hwk hw 103 rfl)
  · exact (hwk hw 104 rfl)
  · exact (hwk hw 105 rfl)
  · exact (hwk hw 106 rfl)
  · exact (hwk hw 107 rfl)
  · exact (hwk hw 108 rfl)

theorem own_chm (x : Int32) : ¬ ((255 : Int32) < ((x &&& (255 : Int32)).toUInt32.toUInt16.toUInt32.toInt32)) := by
  rw [i2c_mask]
  have h := c_and x (255 : Int32) (by decide)
  rw [Int32.lt_iff_toInt_lt]
  omega

theorem ef_rm5 (m : MethodId) (x0 : Addr) : entryFrame m #[(.ref x0)] 1 = mkF m 0 #[.val (.ref x0)] [] := by first | (simp [entryFrame, mkF, argsToLocals, Value.category]; done) | rfl
def Q_rm5 (Z : State) (a1 : Addr) (h0 : Heap) (n0 : Nat) (v : Option Value) (h : Heap) (L : List Loc) : Prop := (v = none) ∧ (Fr n0 L) ∧ (h = h0)
theorem pn_0 : plainName "java/util/AbstractCollection" = true := by first | (simp [plainName, overriddenIn]; done) | decide +kernel
theorem d5_0 : decode jdk_22_method_1_code 0 = .ok (.aload_n 0, 1) := by decide +kernel
theorem d5_1 : decode jdk_22_method_1_code 1 = .ok (.invokespecial 1, 3) := by decide +kernel
theorem d5_4 : decode jdk_22_method_1_code 4 = .ok (.return_, 1) := by decide +kernel
set_option maxRecDepth 65536 in
set_option maxHeartbeats 40000000 in
theorem rm5 (l : Launch) (Z : State) (a0 : Array Value) (hw : ∀ d ∈ tables_1, d.before a0 Z = true) (ws : List Jvm.Cond) (a1 : Addr) (h0 : Heap) (n0 : Nat) (O0 : Old Z n0 h0)  :
    MetFree l (⟨"java/util/AbstractCollection", "<init>", "()V"⟩ : MethodName) (head1 (Jvm.Cond.code (⟨"java/util/AbstractCollection", "<init>", "()V"⟩ : MethodName) jdk_22_method_1_code 1 none :: ws) ({ frames := 1, cells := 0, slots := 0, locals := 12 } : Room)) (fun a U => a = #[(.ref a1)] ∧ Z.Warmed39 U.vm ∧ U.heap = h0) (fun _ _ _ _ _ => True) (fun _ U o U' => ∃ v L, o = .returned v ∧ Q_rm5 Z a1 h0 n0 v U'.heap L ∧ FrameEnd U o U' L ({ frames := 1, cells := 0, slots := 0, locals := 12 } : Room).cells ({ frames := 1, cells := 0, slots := 0, locals := 12 } : Room).slots) := by
  refine MetFree.of_bodySF (plainFor_of_name pn_0) hisR ?_
  intro p e s m args below meth c s₁ Bd hml0 hP hK
  obtain ⟨rfl, hZ, hh⟩ := hP
  have hx := Bd.exec
  have hby := Bd.bytes
  have hml : c.maxLocals = 1 := hml0
  have hown : s.vm.findClass "java/util/AbstractCollection" = some m.cls := findClass_of_methodNamed Bd.named
  have hnm := (name_of_methodNamed Bd.named Bd.method).1
  have X0 : Stand p l e ({ frames := 1, cells := 0, slots := 0, locals := 12 } : Room) s m #[(.ref a1)] below meth c s₁ [] 0 0 := Stand.of_body Bd
  have e0 : s₁.heap = h0 := by rw [← hh, Bd.state]; rfl
  have N0 := Fr.nil n0
  have Z0 : n0 ≤ h0.size := old_le O0
  have pre0 : ∀ t, Steps p.tables e below (s₁.setTop (mkF m 0 #[.val (.ref a1)] [])) t → Steps p.tables e below (s₁.setTop (entryFrame m #[(.ref a1)] 1)) t := fun t k => castTop (ef_rm5 m a1) k
  obtain ⟨T101, X101, e101, st101⟩ := initO X0 hx hZ hown (hwk hw 27 rfl) (hwk hw 7 rfl) (hwk hw 8 rfl) e0 (g := (mkF m 1 #[.val (.ref a1)] [(.ref a1)])) rfl (by rw [hml]; rfl) rfl (hb hby d5_1) (by decide) (W := 0) (by show 2 * 0 + _ ≤ _; exact Nat.le_of_eq rfl) (by decide)
  obtain ⟨fs, hr, hrun, hended, hW, hsame⟩ := X101.leave (v := none) (fun _ => rfl)
  refine ⟨_, _, pre0 _ ?_, hrun, hended, _, _, rfl, ?_, ⟨_, rfl⟩, hW, hsame.mono (by decide) (by decide)⟩
  · show Steps p.tables e below (s₁.setTop (mkF m 0 #[.val (.ref a1)] [])) _
    refine XS.aloadN X0.here hx rfl (hb hby d5_0) rfl rfl ?_
    show Steps p.tables e below (s₁.setTop (mkF m 1 #[.val (.ref a1)] [(.ref a1)])) _
    refine st101 _ ?_
    show Steps p.tables e below (T101.setTop (mkF m 4 #[.val (.ref a1)] [])) _
    exact X101.returnOut hx Bd.returns (hb hby d5_4) hr
  · show Q_rm5 Z a1 h0 n0 _ T101.heap _
    rw [e101]
    unfold Q_rm5
    exact ⟨rfl, N0, rfl⟩
theorem ef_rm4 (m : MethodId) (x0 : Addr) : entryFrame m #[(.ref x0)] 1 = mkF m 0 #[.val (.ref x0)] [] := by first | (simp [entryFrame, mkF, argsToLocals, Value.category]; done) | rfl
def Q_rm4 (Z : State) (a1 : Addr) (h0 : Heap) (n0 : Nat) (v : Option Value) (h : Heap) (L : List Loc) : Prop := (v = none) ∧ (Fr n0 L) ∧ (Keep h0 h [a1]) ∧ (Exa Z h a1 "java/util/ArrayList") ∧ (Fld Z h a1 "java/util/AbstractList" "modCount" "I" (.int (0 : Int32))) ∧ (Fld Z h a1 "java/util/ArrayList" "elementData" "[Ljava/lang/Object;" .null) ∧ (Fld Z h a1 "java/util/ArrayList" "size" "I" (.int (0 : Int32)))
theorem pn_1 : plainName "java/util/AbstractList" = true := by first | (simp [plainName, overriddenIn]; done) | decide +kernel
theorem d4_0 : decode jdk_39_method_1_code 0 = .ok (.aload_n 0, 1) := by decide +kernel
theorem d4_1 : decode jdk_39_method_1_code 1 = .ok (.invokespecial 1, 3) := by decide +kernel
theorem pd_0 : parseMethodDescriptor "()V" = some ⟨[], none⟩ := by decide +kernel
theorem d4_4 : decode jdk_39_method_1_code 4 = .ok (.aload_n 0, 1) := by decide +kernel
theorem d4_5 : decode jdk_39_method_1_code 5 = .ok (.iconst 0, 1) := by decide +kernel
theorem d4_6 : decode jdk_39_method_1_code 6 = .ok (.putfield 7, 3) := by decide +kernel
theorem d4_9 : decode jdk_39_method_1_code 9 = .ok (.return_, 1) := by decide +kernel
set_option maxRecDepth 65536 in
set_option maxHeartbeats 40000000 in
theorem rm4 (l : Launch) (Z : State) (a0 : Array Value) (hw : ∀ d ∈ tables_1, d.before a0 Z = true) (ws : List Jvm.Cond) (a1 : Addr) (h0 : Heap) (n0 : Nat) (O0 : Old Z n0 h0) (E1 : Exa Z h0 a1 "java/util/ArrayList") (g1 : n0 ≤ a1) (D0 : Fld Z h0 a1 "java/util/AbstractList" "modCount" "I" (.int (0 : Int32))) (D1 : Fld Z h0 a1 "java/util/ArrayList" "elementData" "[Ljava/lang/Object;" .null) (D2 : Fld Z h0 a1 "java/util/ArrayList" "size" "I" (.int (0 : Int32))) :
    MetFree l (⟨"java/util/AbstractList", "<init>", "()V"⟩ : MethodName) (head1 (Jvm.Cond.code (⟨"java/util/AbstractList", "<init>", "()V"⟩ : MethodName) jdk_39_method_1_code 1 none :: ws) ({ frames := 2, cells := 0, slots := 0, locals := 24 } : Room)) (fun a U => a = #[(.ref a1)] ∧ Z.Warmed39 U.vm ∧ U.heap = h0) (fun _ _ _ _ _ => True) (fun _ U o U' => ∃ v L, o = .returned v ∧ Q_rm4 Z a1 h0 n0 v U'.heap L ∧ FrameEnd U o U' L ({ frames := 2, cells := 0, slots := 0, locals := 24 } : Room).cells ({ frames := 2, cells := 0, slots := 0, locals := 24 } : Room).slots) := by
  refine MetFree.of_bodySF (plainFor_of_name pn_1) hisR ?_
  intro p e s m args below meth c s₁ Bd hml0 hP hK
  obtain ⟨rfl, hZ, hh⟩ := hP
  have hx := Bd.exec
  have hby := Bd.bytes
  have hml : c.maxLocals = 1 := hml0
  have hown : s.vm.findClass "java/util/AbstractList" = some m.cls := findClass_of_methodNamed Bd.named
  have hnm := (name_of_methodNamed Bd.named Bd.method).1
  have X0 : Stand p l e ({ frames := 2, cells := 0, slots := 0, locals := 24 } : Room) s m #[(.ref a1)] below meth c s₁ [] 0 0 := Stand.of_body Bd
  have e0 : s₁.heap = h0 := by rw [← hh, Bd.state]; rfl
  have N0 := Fr.nil n0
  have Z0 : n0 ≤ h0.size := old_le O0
  have pre0 : ∀ t, Steps p.tables e below (s₁.setTop (mkF m 0 #[.val (.ref a1)] [])) t → Steps p.tables e below (s₁.setTop (entryFrame m #[(.ref a1)] 1)) t := fun t k => castTop (ef_rm4 m a1) k
  obtain ⟨_, _, ⟨T101, L101, k101, n101⟩, -, X101, ⟨Lc101, hQ101, l101, y101, z101⟩, st101⟩ := X0.specialBack hx (y := (⟨"java/util/AbstractCollection", "<init>", "()V"⟩ : MethodName)) rfl hown (mvT hZ (hwk hw 21 rfl)) (mvT hZ (hwk hw 22 rfl)) (mvT hZ (hwk hw 26 rfl)) (by decide) (backOf (W := 0) (rm5 l Z a0 hw [] a1 h0 n0 O0 ) hZ (hwk hw 26 rfl) (hwk hw 25 rfl) (by decide) (by decide)) (g := (mkF m 1 #[.val (.ref a1)] [(.ref a1)])) rfl (by rw [hml]; rfl) (Steps.refl _) (a := a1) (argsL := []) (rest := []) (lenOf pd_0 rfl) rfl (by show 2 * 0 + _ ≤ _; exact Nat.le_of_eq rfl) (hb hby d4_1) (fun _ _ => ⟨rfl, e0, (by decide : 0 + 0 ≤ _), (by decide : 0 + 0 ≤ _)⟩)
  dsimp only [Pt.U, Pt.locs, Pt.cells, Pt.slots] at X101 l101 y101 z101 st101 hQ101
  subst l101 y101 z101
  unfold Q_rm5 at hQ101
  obtain ⟨rfl, N101q, e101⟩ := hQ101
  have N101 := Fr.app N0 N101q
  obtain ⟨T102, h102, X102, e102, W102, st102⟩ := putF X101 hx hZ hown (host := "") (Or.inl (hwk hw 28 rfl)) Via.refl e101 D0 E1 (Or.inl (hwk hw 29 rfl)) (hwk hw 10 rfl) (ty := .int) (by decide) rfl rfl (g := (mkF m 6 #[.val (.ref a1)] [(.int (0 : Int32)), (.ref a1)])) rfl rfl (hb hby d4_6)
  have F102 : Fld Z h102 a1 "java/util/AbstractList" "modCount" "I" (.int (0 : Int32)) := Fld.same W102 D0
  have N102 := Fr.snoc X102 N101 g1
  have K103 : Keep h0 h102 [a1] := Keep.wr (Keep.refl h0 [a1]) W102 (Or.inl (List.mem_of_getElem? (i := 0) rfl))
  have c104 : Exa Z h102 a1 "java/util/ArrayList" := (Exa.wr W102 E1)
  have c105 : Fld Z h102 a1 "java/util/ArrayList" "elementData" "[Ljava/lang/Object;" .null := (Fld.other W102 D1 (Or.inr (slot_ne (Or.inl (hwk hw 32 rfl)) (Or.inl (hwk hw 29 rfl)) (by decide) (t := (.array (.object "java/lang/Object"))) (t' := .int) (by decide) (by decide))))
  have c106 : Fld Z h102 a1 "java/util/ArrayList" "size" "I" (.int (0 : Int32)) := (Fld.other W102 D2 (Or.inr (slot_ne (Or.inl (hwk hw 160 rfl)) (Or.inl (hwk hw 29 rfl)) (by decide) (t := .int) (t' := .int) (by decide) (by decide))))
  obtain ⟨fs, hr, hrun, hended, hW, hsame⟩ := X102.leave (v := none) (fun _ => rfl)
  refine ⟨_, _, pre0 _ ?_, hrun, hended, _, _, rfl, ?_, ⟨_, rfl⟩, hW, hsame.mono (by decide) (by decide)⟩
  · show Steps p.tables e below (s₁.setTop (mkF m 0 #[.val (.ref a1)] [])) _
    refine XS.aloadN X0.here hx rfl (hb hby d4_0) rfl rfl ?_
    show Steps p.tables e below (s₁.setTop (mkF m 1 #[.val (.ref a1)] [(.ref a1)])) _
    refine st101.trans ?_
    show Steps p.tables e below (T101.setTop (mkF m 4 #[.val (.ref a1)] [])) _
    refine XS.aloadN X101.here hx rfl (hb hby d4_4) rfl rfl ?_
    refine XS.iconst X101.here hx rfl (hb hby d4_5) ?_
    show Steps p.tables e below (T101.setTop (mkF m 6 #[.val (.ref a1)] [(.int (0 : Int32)), (.ref a1)])) _
    refine st102 _ ?_
    show Steps p.tables e below (T102.setTop (mkF m 9 #[.val (.ref a1)] [])) _
    exact X102.returnOut hx Bd.returns (hb hby d4_9) hr
  · show Q_rm4 Z a1 h0 n0 _ T102.heap _
    rw [e102]
    unfold Q_rm4
    exact ⟨rfl, N102, K103, c104, F102, c105, c106⟩
theorem ef_rm3 (m : MethodId) (x0 : Addr) : entryFrame m #[(.ref x0)] 1 = mkF m 0 #[.val (.ref x0)] [] := by first | (simp [entryFrame, mkF, argsToLocals, Value.category]; done) | rfl
def Q_rm3 (Z : State) (a1 : Addr) (wd : Addr) (h0 : Heap) (n0 : Nat) (v : Option Value) (h : Heap) (L : List Loc) : Prop := (v = none) ∧ (Fr n0 L) ∧ (Keep h0 h [a1]) ∧ (Exa Z h a1 "java/util/ArrayList") ∧ (Fld Z h a1 "java/util/ArrayList" "elementData" "[Ljava/lang/Object;" (.ref wd)) ∧ (Fld Z h a1 "java/util/ArrayList" "size" "I" (.int (0 : Int32))) ∧ (Fld Z h a1 "java/util/AbstractList" "modCount" "I" (.int (0 : Int32)))
theorem pn_2 : plainName "java/util/ArrayList" = true := by first | (simp [plainName, overriddenIn]; done) | decide +kernel
theorem d3_0 : decode jdk_38_method_2_code 0 = .ok (.aload_n 0, 1) := by decide +kernel
theorem d3_1 : decode jdk_38_method_2_code 1 = .ok (.invokespecial 1, 3) := by decide +kernel
theorem d3_4 : decode jdk_38_method_2_code 4 = .ok (.aload_n 0, 1) := by decide +kernel
theorem d3_5 : decode jdk_38_method_2_code 5 = .ok (.getstatic 39, 3) := by decide +kernel
theorem d3_8 : decode jdk_38_method_2_code 8 = .ok (.putfield 9, 3) := by decide +kernel
theorem d3_11 : decode jdk_38_method_2_code 11 = .ok (.return_, 1) := by decide +kernel
set_option maxRecDepth 65536 in
set_option maxHeartbeats 40000000 in
theorem rm3 (l : Launch) (Z : State) (a0 : Array Value) (hw : ∀ d ∈ tables_1, d.before a0 Z = true) (ws : List Jvm.Cond) (a1 : Addr) (wd : Addr) (h0 : Heap) (n0 : Nat) (O0 : Old Z n0 h0) (E1 : Exa Z h0 a1 "java/util/ArrayList") (g1 : n0 ≤ a1) (D0 : Fld Z h0 a1 "java/util/AbstractList" "modCount" "I" (.int (0 : Int32))) (D1 : Fld Z h0 a1 "java/util/ArrayList" "elementData" "[Ljava/lang/Object;" .null) (D2 : Fld Z h0 a1 "java/util/ArrayList" "size" "I" (.int (0 : Int32))) (SD : Sta Z Z.heap "java/util/ArrayList" "DEFAULTCAPACITY_EMPTY_ELEMENTDATA" "[Ljava/lang/Object;" (.ref wd)) :
    MetFree l (⟨"java/util/ArrayList", "<init>", "()V"⟩ : MethodName) (head1 (Jvm.Cond.code (⟨"java/util/ArrayList", "<init>", "()V"⟩ : MethodName) jdk_38_method_2_code 1 none :: ws) ({ frames := 3, cells := 0, slots := 0, locals := 36 } : Room)) (fun a U => a = #[(.ref a1)] ∧ Z.Warmed39 U.vm ∧ U.heap = h0) (fun _ _ _ _ _ => True) (fun _ U o U' => ∃ v L, o = .returned v ∧ Q_rm3 Z a1 wd h0 n0 v U'.heap L ∧ FrameEnd U o U' L ({ frames := 3, cells := 0, slots := 0, locals := 36 } : Room).cells ({ frames := 3, cells := 0, slots := 0, locals := 36 } : Room).slots) := by
  refine MetFree.of_bodySF (plainFor_of_name pn_2) hisR ?_
  intro p e s m args below meth c s₁ Bd hml0 hP hK
  obtain ⟨rfl, hZ, hh⟩ := hP
  have hx := Bd.exec
  have hby := Bd.bytes
  have hml : c.maxLocals = 1 := hml0
  have hown : s.vm.findClass "java/util/ArrayList" = some m.cls := findClass_of_methodNamed Bd.named
  have hnm := (name_of_methodNamed Bd.named Bd.method).1
  have X0 : Stand p l e ({ frames := 3, cells := 0, slots := 0, locals := 36 } : Room) s m #[(.ref a1)] below meth c s₁ [] 0 0 := Stand.of_body Bd
  have e0 : s₁.heap = h0 := by rw [← hh, Bd.state]; rfl
  have N0 := Fr.nil n0
  have Z0 : n0 ≤ h0.size := old_le O0
  have pre0 : ∀ t, Steps p.tables e below (s₁.setTop (mkF m 0 #[.val (.ref a1)] [])) t → Steps p.tables e below (s₁.setTop (entryFrame m #[(.ref a1)] 1)) t := fun t k => castTop (ef_rm3 m a1) k
  obtain ⟨_, _, ⟨T101, L101, k101, n101⟩, -, X101, ⟨Lc101, hQ101, l101, y101, z101⟩, st101⟩ := X0.specialBack hx (y := (⟨"java/util/AbstractList", "<init>", "()V"⟩ : MethodName)) rfl hown (mvT hZ (hwk hw 15 rfl)) (mvT hZ (hwk hw 16 rfl)) (mvT hZ (hwk hw 20 rfl)) (by decide) (backOf (W := 0) (rm4 l Z a0 hw [] a1 h0 n0 O0 E1 g1 D0 D1 D2) hZ (hwk hw 20 rfl) (hwk hw 19 rfl) (by decide) (by decide)) (g := (mkF m 1 #[.val (.ref a1)] [(.ref a1)])) rfl (by rw [hml]; rfl) (Steps.refl _) (a := a1) (argsL := []) (rest := []) (lenOf pd_0 rfl) rfl (by show 2 * 0 + _ ≤ _; exact Nat.le_of_eq rfl) (hb hby d3_1) (fun _ _ => ⟨rfl, e0, (by decide : 0 + 0 ≤ _), (by decide : 0 + 0 ≤ _)⟩)
  dsimp only [Pt.U, Pt.locs, Pt.cells, Pt.slots] at X101 l101 y101 z101 st101 hQ101
  subst l101 y101 z101
  unfold Q_rm4 at hQ101
  obtain ⟨rfl, N101q, K101, f101_0, f101_1, f101_2, f101_3⟩ := hQ101
  have N101 := Fr.app N0 N101q
  have O103 : Old Z n0 T101.heap := Old.keep O0 K101 (allS g1 all0)
  have c102 : Sta Z T101.heap "java/util/ArrayList" "DEFAULTCAPACITY_EMPTY_ELEMENTDATA" "[Ljava/lang/Object;" (.ref wd) := Sta.ext (O103).2 SD
  obtain ⟨T104, X104, e104, st104⟩ := getS2 X101 hx hZ hown (host := "") (Or.inl (hwk hw 30 rfl)) Via.refl (rfl : T101.heap = T101.heap) c102 (g := (mkF m 5 #[.val (.ref a1)] [(.ref a1)])) rfl (hb hby d3_5)
  obtain ⟨T105, h105, X105, e105, W105, st105⟩ := putF X104 hx hZ hown (host := "") (Or.inl (hwk hw 31 rfl)) Via.refl e104 f101_2 f101_0 (Or.inl (hwk hw 32 rfl)) (hwk hw 10 rfl) (ty := (.array (.object "java/lang/Object"))) (by decide) rfl rfl (g := (mkF m 8 #[.val (.ref a1)] [(.ref wd), (.ref a1)])) rfl rfl (hb hby d3_8)
  have F105 : Fld Z h105 a1 "java/util/ArrayList" "elementData" "[Ljava/lang/Object;" (.ref wd) := Fld.same W105 f101_2
  have N105 := Fr.snoc X105 N101 g1
  have K106 : Keep h0 T101.heap [a1] := Keep.trans (Keep.refl h0 [a1]) K101 (allS (Or.inl (List.mem_of_getElem? (i := 0) rfl)) all0)
  have K107 : Keep h0 h105 [a1] := Keep.wr K106 W105 (Or.inl (List.mem_of_getElem? (i := 0) rfl))
  have c108 : Exa Z h105 a1 "java/util/ArrayList" := (Exa.wr W105 f101_0)
  have c109 : Fld Z h105 a1 "java/util/ArrayList" "size" "I" (.int (0 : Int32)) := (Fld.other W105 f101_3 (Or.inr (slot_ne (Or.inl (hwk hw 160 rfl)) (Or.inl (hwk hw 32 rfl)) (by decide) (t := .int) (t' := (.array (.object "java/lang/Object"))) (by decide) (by decide))))
  have c110 : Fld Z h105 a1 "java/util/AbstractList" "modCount" "I" (.int (0 : Int32)) := (Fld.other W105 f101_1 (Or.inr (slot_ne (Or.inl (hwk hw 29 rfl)) (Or.inl (hwk hw 32 rfl)) (by decide) (t := .int) (t' := (.array (.object "java/lang/Object"))) (by decide) (by decide))))
  obtain ⟨fs, hr, hrun, hended, hW, hsame⟩ := X105.leave (v := none) (fun _ => rfl)
  refine ⟨_, _, pre0 _ ?_, hrun, hended, _, _, rfl, ?_, ⟨_, rfl⟩, hW, hsame.mono (by decide) (by decide)⟩
  · show Steps p.tables e below (s₁.setTop (mkF m 0 #[.val (.ref a1)] [])) _
    refine XS.aloadN X0.here hx rfl (hb hby d3_0) rfl rfl ?_
    show Steps p.tables e below (s₁.setTop (mkF m 1 #[.val (.ref a1)] [(.ref a1)])) _
    refine st101.trans ?_
    show Steps p.tables e below (T101.setTop (mkF m 4 #[.val (.ref a1)] [])) _
    refine XS.aloadN X101.here hx rfl (hb hby d3_4) rfl rfl ?_
    show Steps p.tables e below (T101.setTop (mkF m 5 #[.val (.ref a1)] [(.ref a1)])) _
    refine st104 _ ?_
    show Steps p.tables e below (T104.setTop (mkF m 8 #[.val (.ref a1)] [(.ref wd), (.ref a1)])) _
    refine st105 _ ?_
    show Steps p.tables e below (T105.setTop (mkF m 11 #[.val (.ref a1)] [])) _
    exact X105.returnOut hx Bd.returns (hb hby d3_11) hr
  · show Q_rm3 Z a1 wd h0 n0 _ T105.heap _
    rw [e105]
    unfold Q_rm3
    exact ⟨rfl, N105, K107, c108, F105, c109, c110⟩
theorem ef_rm7 (m : MethodId) (x0 : Addr) : entryFrame m #[(.ref x0)] 1 = mkF m 0 #[.val (.ref x0)] [] := by first | (simp [entryFrame, mkF, argsToLocals, Value.category]; done) | rfl
def Q_rm7 (Z : State) (a1 : Addr) (h0 : Heap) (n0 : Nat) (v : Option Value) (h : Heap) (L : List Loc) : Prop := (v = none) ∧ (Fr n0 L) ∧ (h = h0)
theorem pn_3 : plainName "java/util/AbstractMap" = true := by first | (simp [plainName, overriddenIn]; done) | decide +kernel
theorem d7_0 : decode jdk_71_method_1_code 0 = .ok (.aload_n 0, 1) := by decide +kernel
theorem d7_1 : decode jdk_71_method_1_code 1 = .ok (.invokespecial 1, 3) := by decide +kernel
theorem d7_4 : decode jdk_71_method_1_code 4 = .ok (.return_, 1) := by decide +kernel
set_option maxRecDepth 65536 in
set_option maxHeartbeats 40000000 in
theorem rm7 (l : Launch) (Z : State) (a0 : Array Value) (hw : ∀ d ∈ tables_1, d.before a0 Z = true) (ws : List Jvm.Cond) (a1 : Addr) (h0 : Heap) (n0 : Nat) (O0 : Old Z n0 h0)  :
    MetFree l (⟨"java/util/AbstractMap", "<init>", "()V"⟩ : MethodName) (head1 (Jvm.Cond.code (⟨"java/util/AbstractMap", "<init>", "()V"⟩ : MethodName) jdk_71_method_1_code 1 none :: ws) ({ frames := 1, cells := 0, slots := 0, locals := 12 } : Room)) (fun a U => a = #[(.ref a1)] ∧ Z.Warmed39 U.vm ∧ U.heap = h0) (fun _ _ _ _ _ => True) (fun _ U o U' => ∃ v L, o = .returned v ∧ Q_rm7 Z a1 h0 n0 v U'.heap L ∧ FrameEnd U o U' L ({ frames := 1, cells := 0, slots := 0, locals := 12 } : Room).cells ({ frames := 1, cells := 0, slots := 0, locals := 12 } : Room).slots) := by
  refine MetFree.of_bodySF (plainFor_of_name pn_3) hisR ?_
  intro p e s m args below meth c s₁ Bd hml0 hP hK
  obtain ⟨rfl, hZ, hh⟩ := hP
  have hx := Bd.exec
  have hby := Bd.bytes
  have hml : c.maxLocals = 1 := hml0
  have hown : s.vm.findClass "java/util/AbstractMap" = some m.cls := findClass_of_methodNamed Bd.named
  have hnm := (name_of_methodNamed Bd.named Bd.method).1
  have X0 : Stand p l e ({ frames := 1, cells := 0, slots := 0, locals := 12 } : Room) s m #[(.ref a1)] below meth c s₁ [] 0 0 := Stand.of_body Bd
  have e0 : s₁.heap = h0 := by rw [← hh, Bd.state]; rfl
  have N0 := Fr.nil n0
  have Z0 : n0 ≤ h0.size := old_le O0
  have pre0 : ∀ t, Steps p.tables e below (s₁.setTop (mkF m 0 #[.val (.ref a1)] [])) t → Steps p.tables e below (s₁.setTop (entryFrame m #[(.ref a1)] 1)) t := fun t k => castTop (ef_rm7 m a1) k
  obtain ⟨T101, X101, e101, st101⟩ := initO X0 hx hZ hown (hwk hw 49 rfl) (hwk hw 7 rfl) (hwk hw 8 rfl) e0 (g := (mkF m 1 #[.val (.ref a1)] [(.ref a1)])) rfl (by rw [hml]; rfl) rfl (hb hby d7_1) (by decide) (W := 0) (by show 2 * 0 + _ ≤ _; exact Nat.le_of_eq rfl) (by decide)
  obtain ⟨fs, hr, hrun, hended, hW, hsame⟩ := X101.leave (v := none) (fun _ => rfl)
  refine ⟨_, _, pre0 _ ?_, hrun, hended, _, _, rfl, ?_, ⟨_, rfl⟩, hW, hsame.mono (by decide) (by decide)⟩
  · show Steps p.tables e below (s₁.setTop (mkF m 0 #[.val (.ref a1)] [])) _
    refine XS.aloadN X0.here hx rfl (hb hby d7_0) rfl rfl ?_
    show Steps p.tables e below (s₁.setTop (mkF m 1 #[.val (.ref a1)] [(.ref a1)])) _
    refine st101 _ ?_
    show Steps p.tables e below (T101.setTop (mkF m 4 #[.val (.ref a1)] [])) _
    exact X101.returnOut hx Bd.returns (hb hby d7_4) hr
  · show Q_rm7 Z a1 h0 n0 _ T101.heap _
    rw [e101]
    unfold Q_rm7
    exact ⟨rfl, N0, rfl⟩
theorem ef_rm9 (m : MethodId) (x0 : Addr) : entryFrame m #[(.ref x0)] 1 = mkF m 0 #[.val (.ref x0)] [] := by first | (simp [entryFrame, mkF, argsToLocals, Value.category]; done) | rfl
def Q_rm9 (Z : State) (a1 : Addr) (h0 : Heap) (n0 : Nat) (v : Option Value) (h : Heap) (L : List Loc) : Prop := (v = none) ∧ (Fr n0 L) ∧ (h = h0)
theorem pn_4 : plainName "java/util/AbstractSet" = true := by first | (simp [plainName, overriddenIn]; done) | decide +kernel
theorem d9_0 : decode jdk_91_method_1_code 0 = .ok (.aload_n 0, 1) := by decide +kernel
theorem d9_1 : decode jdk_91_method_1_code 1 = .ok (.invokespecial 1, 3) := by decide +kernel
theorem d9_4 : decode jdk_91_method_1_code 4 = .ok (.return_, 1) := by decide +kernel
set_option maxRecDepth 65536 in
set_option maxHeartbeats 40000000 in
theorem rm9 (l : Launch) (Z : State) (a0 : Array Value) (hw : ∀ d ∈ tables_1, d.before a0 Z = true) (ws : List Jvm.Cond) (a1 : Addr) (h0 : Heap) (n0 : Nat) (O0 : Old Z n0 h0)  :
    MetFree l (⟨"java/util/AbstractSet", "<init>", "()V"⟩ : MethodName) (head1 (Jvm.Cond.code (⟨"java/util/AbstractSet", "<init>", "()V"⟩ : MethodName) jdk_91_method_1_code 1 none :: ws) ({ frames := 2, cells := 0, slots := 0, locals := 24 } : Room)) (fun a U => a = #[(.ref a1)] ∧ Z.Warmed39 U.vm ∧ U.heap = h0) (fun _ _ _ _ _ => True) (fun _ U o U' => ∃ v L, o = .returned v ∧ Q_rm9 Z a1 h0 n0 v U'.heap L ∧ FrameEnd U o U' L ({ frames := 2, cells := 0, slots := 0, locals := 24 } : Room).cells ({ frames := 2, cells := 0, slots := 0, locals := 24 } : Room).slots) := by
  refine MetFree.of_bodySF (plainFor_of_name pn_4) hisR ?_
  intro p e s m args below meth c s₁ Bd hml0 hP hK
  obtain ⟨rfl, hZ, hh⟩ := hP
  have hx := Bd.exec
  have hby := Bd.bytes
  have hml : c.maxLocals = 1 := hml0
  have hown : s.vm.findClass "java/util/AbstractSet" = some m.cls := findClass_of_methodNamed Bd.named
  have hnm := (name_of_methodNamed Bd.named Bd.method).1
  have X0 : Stand p l e ({ frames := 2, cells := 0, slots := 0, locals := 24 } : Room) s m #[(.ref a1)] below meth c s₁ [] 0 0 := Stand.of_body Bd
  have e0 : s₁.heap = h0 := by rw [← hh, Bd.state]; rfl
  have N0 := Fr.nil n0
  have Z0 : n0 ≤ h0.size := old_le O0
  have pre0 : ∀ t, Steps p.tables e below (s₁.setTop (mkF m 0 #[.val (.ref a1)] [])) t → Steps p.tables e below (s₁.setTop (entryFrame m #[(.ref a1)] 1)) t := fun t k => castTop (ef_rm9 m a1) k
  obtain ⟨_, _, ⟨T101, L101, k101, n101⟩, -, X101, ⟨Lc101, hQ101, l101, y101, z101⟩, st101⟩ := X0.specialBack hx (y := (⟨"java/util/AbstractCollection", "<init>", "()V"⟩ : MethodName)) rfl hown (mvT hZ (hwk hw 67 rfl)) (mvT hZ (hwk hw 22 rfl)) (mvT hZ (hwk hw 26 rfl)) (by decide) (backOf (W := 0) (rm5 l Z a0 hw [] a1 h0 n0 O0 ) hZ (hwk hw 26 rfl) (hwk hw 25 rfl) (by decide) (by decide)) (g := (mkF m 1 #[.val (.ref a1)] [(.ref a1)])) rfl (by rw [hml]; rfl) (Steps.refl _) (a := a1) (argsL := []) (rest := []) (lenOf pd_0 rfl) rfl (by show 2 * 0 + _ ≤ _; exact Nat.le_of_eq rfl) (hb hby d9_1) (fun _ _ => ⟨rfl, e0, (by decide : 0 + 0 ≤ _), (by decide : 0 + 0 ≤ _)⟩)
  dsimp only [Pt.U, Pt.locs, Pt.cells, Pt.slots] at X101 l101 y101 z101 st101 hQ101
  subst l101 y101 z101
  unfold Q_rm5 at hQ101
  obtain ⟨rfl, N101q, e101⟩ := hQ101
  have N101 := Fr.app N0 N101q
  obtain ⟨fs, hr, hrun, hended, hW, hsame⟩ := X101.leave (v := none) (fun _ => rfl)
  refine ⟨_, _, pre0 _ ?_, hrun, hended, _, _, rfl, ?_, ⟨_, rfl⟩, hW, hsame.mono (by decide) (by decide)⟩
  · show Steps p.tables e below (s₁.setTop (mkF m 0 #[.val (.ref a1)] [])) _
    refine XS.aloadN X0.here hx rfl (hb hby d9_0) rfl rfl ?_
    show Steps p.tables e below (s₁.setTop (mkF m 1 #[.val (.ref a1)] [(.ref a1)])) _
    refine st101.trans ?_
    show Steps p.tables e below (T101.setTop (mkF m 4 #[.val (.ref a1)] [])) _
    exact X101.returnOut hx Bd.returns (hb hby d9_4) hr
  · show Q_rm9 Z a1 h0 n0 _ T101.heap _
    rw [e101]
    unfold Q_rm9
    exact ⟨rfl, N101, rfl⟩
theorem ef_rm6 (m : MethodId) (x0 : Addr) : entryFrame m #[(.ref x0)] 1 = mkF m 0 #[.val (.ref x0)] [] := by first | (simp [entryFrame, mkF, argsToLocals, Value.category]; done) | rfl
def Q_rm6 (Z : State) (a1 : Addr) (h0 : Heap) (n0 : Nat) (v : Option Value) (h : Heap) (L : List Loc) : Prop := (v = none) ∧ (Fr n0 L) ∧ (Keep h0 h [a1]) ∧ (Exa Z h a1 "java/util/HashMap")
theorem pn_5 : plainName "java/util/HashMap" = true := by first | (simp [plainName, overriddenIn]; done) | decide +kernel
theorem d6_0 : decode jdk_69_method_7_code 0 = .ok (.aload_n 0, 1) := by decide +kernel
theorem d6_1 : decode jdk_69_method_7_code 1 = .ok (.invokespecial 43, 3) := by decide +kernel
theorem d6_4 : decode jdk_69_method_7_code 4 = .ok (.aload_n 0, 1) := by decide +kernel
theorem d6_5 : decode jdk_69_method_7_code 5 = .ok (.ldc 92, 2) := by decide +kernel
theorem d6_7 : decode jdk_69_method_7_code 7 = .ok (.putfield 81, 3) := by decide +kernel
theorem d6_10 : decode jdk_69_method_7_code 10 = .ok (.return_, 1) := by decide +kernel
set_option maxRecDepth 65536 in
set_option maxHeartbeats 40000000 in
theorem rm6 (l : Launch) (Z : State) (a0 : Array Value) (hw : ∀ d ∈ tables_1, d.before a0 Z = true) (ws : List Jvm.Cond) (a1 : Addr) (h0 : Heap) (n0 : Nat) (O0 : Old Z n0 h0) (E1 : Exa Z h0 a1 "java/util/HashMap") (g1 : n0 ≤ a1) (D0 : Fld Z h0 a1 "java/util/HashMap" "loadFactor" "F" (.float (0 : UInt32))) :
    MetFree l (⟨"java/util/HashMap", "<init>", "()V"⟩ : MethodName) (head1 (Jvm.Cond.code (⟨"java/util/HashMap", "<init>", "()V"⟩ : MethodName) jdk_69_method_7_code 1 none :: ws) ({ frames := 2, cells := 0, slots := 0, locals := 24 } : Room)) (fun a U => a = #[(.ref a1)] ∧ Z.Warmed39 U.vm ∧ U.heap = h0) (fun _ _ _ _ _ => True) (fun _ U o U' => ∃ v L, o = .returned v ∧ Q_rm6 Z a1 h0 n0 v U'.heap L ∧ FrameEnd U o U' L ({ frames := 2, cells := 0, slots := 0, locals := 24 } : Room).cells ({ frames := 2, cells := 0, slots := 0, locals := 24 } : Room).slots) := by
  refine MetFree.of_bodySF (plainFor_of_name pn_5) hisR ?_
  intro p e s m args below meth c s₁ Bd hml0 hP hK
  obtain ⟨rfl, hZ, hh⟩ := hP
  have hx := Bd.exec
  have hby := Bd.bytes
  have hml : c.maxLocals = 1 := hml0
  have hown : s.vm.findClass "java/util/HashMap" = some m.cls := findClass_of_methodNamed Bd.named
  have hnm := (name_of_methodNamed Bd.named Bd.method).1
  have X0 : Stand p l e ({ frames := 2, cells := 0, slots := 0, locals := 24 } : Room) s m #[(.ref a1)] below meth c s₁ [] 0 0 := Stand.of_body Bd
  have e0 : s₁.heap = h0 := by rw [← hh, Bd.state]; rfl
  have N0 := Fr.nil n0
  have Z0 : n0 ≤ h0.size := old_le O0
  have pre0 : ∀ t, Steps p.tables e below (s₁.setTop (mkF m 0 #[.val (.ref a1)] [])) t → Steps p.tables e below (s₁.setTop (entryFrame m #[(.ref a1)] 1)) t := fun t k => castTop (ef_rm6 m a1) k
  obtain ⟨_, _, ⟨T101, L101, k101, n101⟩, -, X101, ⟨Lc101, hQ101, l101, y101, z101⟩, st101⟩ := X0.specialBack hx (y := (⟨"java/util/AbstractMap", "<init>", "()V"⟩ : MethodName)) rfl hown (mvT hZ (hwk hw 43 rfl)) (mvT hZ (hwk hw 44 rfl)) (mvT hZ (hwk hw 48 rfl)) (by decide) (backOf (W := 0) (rm7 l Z a0 hw [] a1 h0 n0 O0 ) hZ (hwk hw 48 rfl) (hwk hw 47 rfl) (by decide) (by decide)) (g := (mkF m 1 #[.val (.ref a1)] [(.ref a1)])) rfl (by rw [hml]; rfl) (Steps.refl _) (a := a1) (argsL := []) (rest := []) (lenOf pd_0 rfl) rfl (by show 2 * 0 + _ ≤ _; exact Nat.le_of_eq rfl) (hb hby d6_1) (fun _ _ => ⟨rfl, e0, (by decide : 0 + 0 ≤ _), (by decide : 0 + 0 ≤ _)⟩)
  dsimp only [Pt.U, Pt.locs, Pt.cells, Pt.slots] at X101 l101 y101 z101 st101 hQ101
  subst l101 y101 z101
  unfold Q_rm7 at hQ101
  obtain ⟨rfl, N101q, e101⟩ := hQ101
  have N101 := Fr.app N0 N101q
  obtain ⟨T102, h102, X102, e102, W102, st102⟩ := putF X101 hx hZ hown (host := "") (Or.inl (hwk hw 51 rfl)) Via.refl e101 D0 E1 (Or.inr ⟨(hwk hw 52 rfl), rfl, hnm⟩) (hwk hw 38 rfl) (ty := .float) (by decide) rfl rfl (g := (mkF m 7 #[.val (.ref a1)] [(.float (1061158912 : UInt32)), (.ref a1)])) rfl rfl (hb hby d6_7)
  have F102 : Fld Z h102 a1 "java/util/HashMap" "loadFactor" "F" (.float (1061158912 : UInt32)) := Fld.same W102 D0
  have N102 := Fr.snoc X102 N101 g1
  have K103 : Keep h0 h102 [a1] := Keep.wr (Keep.refl h0 [a1]) W102 (Or.inl (List.mem_of_getElem? (i := 0) rfl))
  have c104 : Exa Z h102 a1 "java/util/HashMap" := (Exa.wr W102 E1)
  obtain ⟨fs, hr, hrun, hended, hW, hsame⟩ := X102.leave (v := none) (fun _ => rfl)
  refine ⟨_, _, pre0 _ ?_, hrun, hended, _, _, rfl, ?_, ⟨_, rfl⟩, hW, hsame.mono (by decide) (by decide)⟩
  · show Steps p.tables e below (s₁.setTop (mkF m 0 #[.val (.ref a1)] [])) _
    refine XS.aloadN X0.here hx rfl (hb hby d6_0) rfl rfl ?_
    show Steps p.tables e below (s₁.setTop (mkF m 1 #[.val (.ref a1)] [(.ref a1)])) _
    refine st101.trans ?_
    show Steps p.tables e below (T101.setTop (mkF m 4 #[.val (.ref a1)] [])) _
    refine XS.aloadN X101.here hx rfl (hb hby d6_4) rfl rfl ?_
    show Steps p.tables e below (T101.setTop (mkF m 5 #[.val (.ref a1)] [(.ref a1)])) _
    refine X101.ldcFloatC hx hown (mvT hZ (hwk hw 50 rfl)) (g := (mkF m 5 #[.val (.ref a1)] [(.ref a1)])) rfl (hb hby d6_5) _ ?_
    show Steps p.tables e below (T101.setTop (mkF m 7 #[.val (.ref a1)] [(.float (1061158912 : UInt32)), (.ref a1)])) _
    refine st102 _ ?_
    show Steps p.tables e below (T102.setTop (mkF m 10 #[.val (.ref a1)] [])) _
    exact X102.returnOut hx Bd.returns (hb hby d6_10) hr
  · show Q_rm6 Z a1 h0 n0 _ T102.heap _
    rw [e102]
    unfold Q_rm6
    exact ⟨rfl, N102, K103, c104⟩
theorem ef_rm8 (m : MethodId) (x0 : Addr) : entryFrame m #[(.ref x0)] 1 = mkF m 0 #[.val (.ref x0)] [] := by first | (simp [entryFrame, mkF, argsToLocals, Value.category]; done) | rfl
def Q_rm8 (Z : State) (a1 : Addr) (h0 : Heap) (n0 : Nat) (v : Option Value) (h : Heap) (L : List Loc) : Prop := (v = none) ∧ (Fr n0 L) ∧ (Keep h0 h [a1]) ∧ (Exa Z h a1 "java/util/HashSet")
theorem pn_6 : plainName "java/util/HashSet" = true := by first | (simp [plainName, overriddenIn]; done) | decide +kernel
theorem d8_0 : decode jdk_93_method_1_code 0 = .ok (.aload_n 0, 1) := by decide +kernel
theorem d8_1 : decode jdk_93_method_1_code 1 = .ok (.invokespecial 1, 3) := by decide +kernel
theorem d8_4 : decode jdk_93_method_1_code 4 = .ok (.aload_n 0, 1) := by decide +kernel
theorem d8_5 : decode jdk_93_method_1_code 5 = .ok (.new 7, 3) := by decide +kernel
theorem d8_8 : decode jdk_93_method_1_code 8 = .ok (.dup, 1) := by decide +kernel
theorem d8_9 : decode jdk_93_method_1_code 9 = .ok (.invokespecial 9, 3) := by decide +kernel
theorem d8_12 : decode jdk_93_method_1_code 12 = .ok (.putfield 10, 3) := by decide +kernel
theorem d8_15 : decode jdk_93_method_1_code 15 = .ok (.return_, 1) := by decide +kernel
set_option maxRecDepth 65536 in
set_option maxHeartbeats 40000000 in
theorem rm8 (l : Launch) (Z : State) (a0 : Array Value) (hw : ∀ d ∈ tables_1, d.before a0 Z = true) (ws : List Jvm.Cond) (a1 : Addr) (h0 : Heap) (n0 : Nat) (O0 : Old Z n0 h0) (E1 : Exa Z h0 a1 "java/util/HashSet") (g1 : n0 ≤ a1) (D0 : Fld Z h0 a1 "java/util/HashSet" "map" "Ljava/util/HashMap;" .null) :
    MetFree l (⟨"java/util/HashSet", "<init>", "()V"⟩ : MethodName) (head1 (Jvm.Cond.code (⟨"java/util/HashSet", "<init>", "()V"⟩ : MethodName) jdk_93_method_1_code 1 none :: ws) ({ frames := 3, cells := 1, slots := 8, locals := 38 } : Room)) (fun a U => a = #[(.ref a1)] ∧ Z.Warmed39 U.vm ∧ U.heap = h0) (fun _ _ _ _ _ => True) (fun _ U o U' => ∃ v L, o = .returned v ∧ Q_rm8 Z a1 h0 n0 v U'.heap L ∧ FrameEnd U o U' L ({ frames := 3, cells := 1, slots := 8, locals := 38 } : Room).cells ({ frames := 3, cells := 1, slots := 8, locals := 38 } : Room).slots) := by
  refine MetFree.of_bodySF (plainFor_of_name pn_6) hisR ?_
  intro p e s m args below meth c s₁ Bd hml0 hP hK
  obtain ⟨rfl, hZ, hh⟩ := hP
  have hx := Bd.exec
  have hby := Bd.bytes
  have hml : c.maxLocals = 1 := hml0
  have hown : s.vm.findClass "java/util/HashSet" = some m.cls := findClass_of_methodNamed Bd.named
  have hnm := (name_of_methodNamed Bd.named Bd.method).1
  have X0 : Stand p l e ({ frames := 3, cells := 1, slots := 8, locals := 38 } : Room) s m #[(.ref a1)] below meth c s₁ [] 0 0 := Stand.of_body Bd
  have e0 : s₁.heap = h0 := by rw [← hh, Bd.state]; rfl
  have N0 := Fr.nil n0
  have Z0 : n0 ≤ h0.size := old_le O0
  have pre0 : ∀ t, Steps p.tables e below (s₁.setTop (mkF m 0 #[.val (.ref a1)] [])) t → Steps p.tables e below (s₁.setTop (entryFrame m #[(.ref a1)] 1)) t := fun t k => castTop (ef_rm8 m a1) k
  obtain ⟨_, _, ⟨T101, L101, k101, n101⟩, -, X101, ⟨Lc101, hQ101, l101, y101, z101⟩, st101⟩ := X0.specialBack hx (y := (⟨"java/util/AbstractSet", "<init>", "()V"⟩ : MethodName)) rfl hown (mvT hZ (hwk hw 61 rfl)) (mvT hZ (hwk hw 62 rfl)) (mvT hZ (hwk hw 66 rfl)) (by decide) (backOf (W := 0) (rm9 l Z a0 hw [] a1 h0 n0 O0 ) hZ (hwk hw 66 rfl) (hwk hw 65 rfl) (by decide) (by decide)) (g := (mkF m 1 #[.val (.ref a1)] [(.ref a1)])) rfl (by rw [hml]; rfl) (Steps.refl _) (a := a1) (argsL := []) (rest := []) (lenOf pd_0 rfl) rfl (by show 2 * 0 + _ ≤ _; exact Nat.le_of_eq rfl) (hb hby d8_1) (fun _ _ => ⟨rfl, e0, (by decide : 0 + 0 ≤ _), (by decide : 0 + 0 ≤ _)⟩)
  dsimp only [Pt.U, Pt.locs, Pt.cells, Pt.slots] at X101 l101 y101 z101 st101 hQ101
  subst l101 y101 z101
  unfold Q_rm9 at hQ101
  obtain ⟨rfl, N101q, e101⟩ := hQ101
  have N101 := Fr.app N0 N101q
  obtain ⟨T102, h102, X102, e102, E102, A102, D102, -, st102⟩ := newO X101 hx hZ hown (hwk hw 69 rfl) (hwk hw 38 rfl) (hwk hw 39 rfl) e101 (g := (mkF m 5 #[.val (.ref a1)] [(.ref a1)])) rfl (hb hby d8_5) (by decide) (by decide)
  obtain ⟨b102, g102⟩ : ∃ z, z = h0.size := ⟨_, rfl⟩
  rw [← g102] at A102 D102 st102
  have g_b102 : n0 ≤ b102 := Nat.le_trans (old_le O0) (Nat.le_of_eq g102.symm)
  have O103 : Old Z n0 h102 := Old.ext O0 E102
  obtain ⟨_, _, ⟨T104, L104, k104, n104⟩, -, X104, ⟨Lc104, hQ104, l104, y104, z104⟩, st104⟩ := X102.specialBack hx (y := (⟨"java/util/HashMap", "<init>", "()V"⟩ : MethodName)) rfl hown (mvT hZ (hwk hw 70 rfl)) (mvT hZ (hwk hw 41 rfl)) (mvT hZ (hwk hw 42 rfl)) (by decide) (backOf (W := 2) (rm6 l Z a0 hw [] b102 h102 n0 O103 A102 g_b102 (show Fld Z h102 b102 "java/util/HashMap" "loadFactor" "F" (.float (0 : UInt32)) from D102 (Or.inr (hwk hw 52 rfl)) (ty := .float) (by decide))) hZ (hwk hw 42 rfl) (hwk hw 39 rfl) (by decide) (by decide)) (g := (mkF m 9 #[.val (.ref a1)] [(.ref b102), (.ref b102), (.ref a1)])) rfl (by rw [hml]; rfl) (Steps.refl _) (a := b102) (argsL := []) (rest := [(.ref b102), (.ref a1)]) (lenOf pd_0 rfl) rfl (by show 2 * 0 + _ ≤ _; exact Nat.le_of_eq rfl) (hb hby d8_9) (fun _ _ => ⟨rfl, e102, (by decide : 1 + 0 ≤ _), (by decide : 8 + 0 ≤ _)⟩)
  dsimp only [Pt.U, Pt.locs, Pt.cells, Pt.slots] at X104 l104 y104 z104 st104 hQ104
  subst l104 y104 z104
  unfold Q_rm6 at hQ104
  obtain ⟨rfl, N104q, K104, f104_0⟩ := hQ104
  have N104 := Fr.app N101 N104q
  have c105 : Exa Z T104.heap a1 "java/util/HashSet" := (Exa.keep (Exa.ext E102 E1) K104)
  have c106 : Fld Z T104.heap a1 "java/util/HashSet" "map" "Ljava/util/HashMap;" .null := (Fld.keep (Fld.ext E102 D0) K104 (ninS (ne_exa c105 f104_0 (by decide)) nin0))
  obtain ⟨T107, h107, X107, e107, W107, st107⟩ := putF X104 hx hZ hown (host := "") (Or.inl (hwk hw 72 rfl)) Via.refl (rfl : T104.heap = T104.heap) c106 c105 (Or.inl (hwk hw 73 rfl)) (hwk hw 56 rfl) (ty := (.object "java/util/HashMap")) (by decide) rfl rfl (g := (mkF m 12 #[.val (.ref a1)] [(.ref b102), (.ref a1)])) rfl rfl (hb hby d8_12)
  have F107 : Fld Z h107 a1 "java/util/HashSet" "map" "Ljava/util/HashMap;" (.ref b102) := Fld.same W107 c106
  have N107 := Fr.snoc X107 N104 g1
  have K108 : Keep h0 h102 [a1] := Keep.ext (Keep.refl h0 [a1]) E102
  have K109 : Keep h0 T104.heap [a1] := Keep.trans K108 K104 (allS (Or.inr (Nat.le_trans (Nat.le_refl _) (Nat.le_of_eq g102.symm))) all0)
  have K110 : Keep h0 h107 [a1] := Keep.wr K109 W107 (Or.inl (List.mem_of_getElem? (i := 0) rfl))
  have c111 : Exa Z h107 a1 "java/util/HashSet" := (Exa.wr W107 c105)
  obtain ⟨fs, hr, hrun, hended, hW, hsame⟩ := X107.leave (v := none) (fun _ => rfl)
  refine ⟨_, _, pre0 _ ?_, hrun, hended, _, _, rfl, ?_, ⟨_, rfl⟩, hW, hsame.mono (by decide) (by decide)⟩
  · show Steps p.tables e below (s₁.setTop (mkF m 0 #[.val (.ref a1)] [])) _
    refine XS.aloadN X0.here hx rfl (hb hby d8_0) rfl rfl ?_
    show Steps p.tables e below (s₁.setTop (mkF m 1 #[.val (.ref a1)] [(.ref a1)])) _
    refine st101.trans ?_
    show Steps p.tables e below (T101.setTop (mkF m 4 #[.val (.ref a1)] [])) _
    refine XS.aloadN X101.here hx rfl (hb hby d8_4) rfl rfl ?_
    show Steps p.tables e below (T101.setTop (mkF m 5 #[.val (.ref a1)] [(.ref a1)])) _
    refine st102 _ ?_
    show Steps p.tables e below (T102.setTop (mkF m 8 #[.val (.ref a1)] [(.ref b102), (.ref a1)])) _
    refine XS.dup X102.here hx rfl (hb hby d8_8) rfl rfl ?_
    show Steps p.tables e below (T102.setTop (mkF m 9 #[.val (.ref a1)] [(.ref b102), (.ref b102), (.ref a1)])) _
    refine st104.trans ?_
    show Steps p.tables e below (T104.setTop (mkF m 12 #[.val (.ref a1)] [(.ref b102), (.ref a1)])) _
    refine st107 _ ?_
    show Steps p.tables e below (T107.setTop (mkF m 15 #[.val (.ref a1)] [])) _
    exact X107.returnOut hx Bd.returns (hb hby d8_15) hr
  · show Q_rm8 Z a1 h0 n0 _ T107.heap _
    rw [e107]
    unfold Q_rm8
    exact ⟨rfl, N107, K110, c111⟩
theorem ef_rm10 (m : MethodId) (x0 : Addr) : entryFrame m #[(.ref x0)] 1 = mkF m 0 #[.val (.ref x0)] [] := by first | (simp [entryFrame, mkF, argsToLocals, Value.category]; done) | rfl
def Q_rm10 (Z : State) (a1 : Addr) (h0 : Heap) (n0 : Nat) (v : Option Value) (h : Heap) (L : List Loc) : Prop := (v = none) ∧ (Fr n0 L) ∧ (Keep h0 h [a1]) ∧ (Exa Z h a1 "java/util/ArrayDeque") ∧ (Fld Z h a1 "java/util/ArrayDeque" "head" "I" (.int (0 : Int32))) ∧ (Fld Z h a1 "java/util/ArrayDeque" "tail" "I" (.int (0 : Int32)))
theorem pn_7 : plainName "java/util/ArrayDeque" = true := by first | (simp [plainName, overriddenIn]; done) | decide +kernel
theorem d10_0 : decode jdk_21_method_3_code 0 = .ok (.aload_n 0, 1) := by decide +kernel
theorem d10_1 : decode jdk_21_method_3_code 1 = .ok (.invokespecial 42, 3) := by decide +kernel
theorem d10_4 : decode jdk_21_method_3_code 4 = .ok (.aload_n 0, 1) := by decide +kernel
theorem d10_5 : decode jdk_21_method_3_code 5 = .ok (.bipush 17, 2) := by decide +kernel
theorem d10_7 : decode jdk_21_method_3_code 7 = .ok (.anewarray 47, 3) := by decide +kernel
theorem d10_10 : decode jdk_21_method_3_code 10 = .ok (.putfield 3, 3) := by decide +kernel
theorem d10_13 : decode jdk_21_method_3_code 13 = .ok (.return_, 1) := by decide +kernel
set_option maxRecDepth 65536 in
set_option maxHeartbeats 40000000 in
theorem rm10 (l : Launch) (Z : State) (a0 : Array Value) (hw : ∀ d ∈ tables_1, d.before a0 Z = true) (ws : List Jvm.Cond) (a1 : Addr) (h0 : Heap) (n0 : Nat) (O0 : Old Z n0 h0) (E1 : Exa Z h0 a1 "java/util/ArrayDeque") (g1 : n0 ≤ a1) (D0 : Fld Z h0 a1 "java/util/ArrayDeque" "elements" "[Ljava/lang/Object;" .null) (D1 : Fld Z h0 a1 "java/util/ArrayDeque" "head" "I" (.int (0 : Int32))) (D2 : Fld Z h0 a1 "java/util/ArrayDeque" "tail" "I" (.int (0 : Int32))) :
    MetFree l (⟨"java/util/ArrayDeque", "<init>", "()V"⟩ : MethodName) (head1 (Jvm.Cond.code (⟨"java/util/ArrayDeque", "<init>", "()V"⟩ : MethodName) jdk_21_method_3_code 1 none :: ws) ({ frames := 2, cells := 1, slots := 17, locals := 24 } : Room)) (fun a U => a = #[(.ref a1)] ∧ Z.Warmed39 U.vm ∧ U.heap = h0) (fun _ _ _ _ _ => True) (fun _ U o U' => ∃ v L, o = .returned v ∧ Q_rm10 Z a1 h0 n0 v U'.heap L ∧ FrameEnd U o U' L ({ frames := 2, cells := 1, slots := 17, locals := 24 } : Room).cells ({ frames := 2, cells := 1, slots := 17, locals := 24 } : Room).slots) := by
  refine MetFree.of_bodySF (plainFor_of_name pn_7) hisR ?_
  intro p e s m args below meth c s₁ Bd hml0 hP hK
  obtain ⟨rfl, hZ, hh⟩ := hP
  have hx := Bd.exec
  have hby := Bd.bytes
  have hml : c.maxLocals = 1 := hml0
  have hown : s.vm.findClass "java/util/ArrayDeque" = some m.cls := findClass_of_methodNamed Bd.named
  have hnm := (name_of_methodNamed Bd.named Bd.method).1
  have X0 : Stand p l e ({ frames := 2, cells := 1, slots := 17, locals := 24 } : Room) s m #[(.ref a1)] below meth c s₁ [] 0 0 := Stand.of_body Bd
  have e0 : s₁.heap = h0 := by rw [← hh, Bd.state]; rfl
  have N0 := Fr.nil n0
  have Z0 : n0 ≤ h0.size := old_le O0
  have pre0 : ∀ t, Steps p.tables e below (s₁.setTop (mkF m 0 #[.val (.ref a1)] [])) t → Steps p.tables e below (s₁.setTop (entryFrame m #[(.ref a1)] 1)) t := fun t k => castTop (ef_rm10 m a1) k
  obtain ⟨_, _, ⟨T101, L101, k101, n101⟩, -, X101, ⟨Lc101, hQ101, l101, y101, z101⟩, st101⟩ := X0.specialBack hx (y := (⟨"java/util/AbstractCollection", "<init>", "()V"⟩ : MethodName)) rfl hown (mvT hZ (hwk hw 84 rfl)) (mvT hZ (hwk hw 22 rfl)) (mvT hZ (hwk hw 26 rfl)) (by decide) (backOf (W := 0) (rm5 l Z a0 hw [] a1 h0 n0 O0 ) hZ (hwk hw 26 rfl) (hwk hw 25 rfl) (by decide) (by decide)) (g := (mkF m 1 #[.val (.ref a1)] [(.ref a1)])) rfl (by rw [hml]; rfl) (Steps.refl _) (a := a1) (argsL := []) (rest := []) (lenOf pd_0 rfl) rfl (by show 2 * 0 + _ ≤ _; exact Nat.le_of_eq rfl) (hb hby d10_1) (fun _ _ => ⟨rfl, e0, (by decide : 0 + 0 ≤ _), (by decide : 0 + 0 ≤ _)⟩)
  dsimp only [Pt.U, Pt.locs, Pt.cells, Pt.slots] at X101 l101 y101 z101 st101 hQ101
  subst l101 y101 z101
  unfold Q_rm5 at hQ101
  obtain ⟨rfl, N101q, e101⟩ := hQ101
  have N101 := Fr.app N0 N101q
  obtain ⟨T102, h102, k102, X102, e102, E102, A102, Ov102, st102⟩ := newR X101 hx hZ hown (hwk hw 86 rfl) (hwk hw 87 rfl) e101 (g := (mkF m 7 #[.val (.ref a1)] [(.int (17 : Int32)), (.ref a1)])) rfl (hb hby d10_7) rfl (by decide) (cap := 17) (by decide) (by decide) (by decide) (by decide)
  obtain ⟨b102, g102⟩ : ∃ z, z = h0.size := ⟨_, rfl⟩
  rw [← g102] at A102 st102
  have g_b102 : n0 ≤ b102 := Nat.le_trans (old_le O0) (Nat.le_of_eq g102.symm)
  have V102 : Arv Z h102 b102 k102 (.object "java/lang/Object") (17 : Int32) [.null, .null, .null, .null, .null, .null, .null, .null, .null, .null, .null, .null, .null, .null, .null, .null, .null] .null := (Arv.new A102 (by decide)).pad (pad_rep [] .null 17)
  have c103 : Exa Z h102 a1 "java/util/ArrayDeque" := (Exa.ext E102 E1)
  have c104 : Fld Z h102 a1 "java/util/ArrayDeque" "elements" "[Ljava/lang/Object;" .null := (Fld.ext E102 D0)
  obtain ⟨T105, h105, X105, e105, W105, st105⟩ := putF X102 hx hZ hown (host := "") (Or.inl (hwk hw 88 rfl)) Via.refl e102 c104 c103 (Or.inl (hwk hw 89 rfl)) (hwk hw 79 rfl) (ty := (.array (.object "java/lang/Object"))) (by decide) rfl rfl (g := (mkF m 10 #[.val (.ref a1)] [(.ref b102), (.ref a1)])) rfl rfl (hb hby d10_10)
  have F105 : Fld Z h105 a1 "java/util/ArrayDeque" "elements" "[Ljava/lang/Object;" (.ref b102) := Fld.same W105 c104
  have N105 := Fr.snoc X105 N101 g1
  have K106 : Keep h0 h102 [a1] := Keep.ext (Keep.refl h0 [a1]) E102
  have K107 : Keep h0 h105 [a1] := Keep.wr K106 W105 (Or.inl (List.mem_of_getElem? (i := 0) rfl))
  have c108 : Exa Z h105 a1 "java/util/ArrayDeque" := (Exa.wr W105 c103)
  have c109 : Fld Z h105 a1 "java/util/ArrayDeque" "head" "I" (.int (0 : Int32)) := (Fld.other W105 (Fld.ext E102 D1) (Or.inr (slot_ne (Or.inl (hwk hw 124 rfl)) (Or.inl (hwk hw 89 rfl)) (by decide) (t := .int) (t' := (.array (.object "java/lang/Object"))) (by decide) (by decide))))
  have c110 : Fld Z h105 a1 "java/util/ArrayDeque" "tail" "I" (.int (0 : Int32)) := (Fld.other W105 (Fld.ext E102 D2) (Or.inr (slot_ne (Or.inl (hwk hw 126 rfl)) (Or.inl (hwk hw 89 rfl)) (by decide) (t := .int) (t' := (.array (.object "java/lang/Object"))) (by decide) (by decide))))
  obtain ⟨fs, hr, hrun, hended, hW, hsame⟩ := X105.leave (v := none) (fun _ => rfl)
  refine ⟨_, _, pre0 _ ?_, hrun, hended, _, _, rfl, ?_, ⟨_, rfl⟩, hW, hsame.mono (by decide) (by decide)⟩
  · show Steps p.tables e below (s₁.setTop (mkF m 0 #[.val (.ref a1)] [])) _
    refine XS.aloadN X0.here hx rfl (hb hby d10_0) rfl rfl ?_
    show Steps p.tables e below (s₁.setTop (mkF m 1 #[.val (.ref a1)] [(.ref a1)])) _
    refine st101.trans ?_
    show Steps p.tables e below (T101.setTop (mkF m 4 #[.val (.ref a1)] [])) _
    refine XS.aloadN X101.here hx rfl (hb hby d10_4) rfl rfl ?_
    refine XS.bipush X101.here hx rfl (hb hby d10_5) ?_
    show Steps p.tables e below (T101.setTop (mkF m 7 #[.val (.ref a1)] [(.int (17 : Int32)), (.ref a1)])) _
    refine st102 _ ?_
    show Steps p.tables e below (T102.setTop (mkF m 10 #[.val (.ref a1)] [(.ref b102), (.ref a1)])) _
    refine st105 _ ?_
    show Steps p.tables e below (T105.setTop (mkF m 13 #[.val (.ref a1)] [])) _
    exact X105.returnOut hx Bd.returns (hb hby d10_13) hr
  · show Q_rm10 Z a1 h0 n0 _ T105.heap _
    rw [e105]
    unfold Q_rm10
    exact ⟨rfl, N105, K107, c108, c109, c110⟩
theorem ef_rm12 (m : MethodId) (x0 : Addr) : entryFrame m #[(.ref x0)] 1 = mkF m 0 #[.val (.ref x0)] [] := by first | (simp [entryFrame, mkF, argsToLocals, Value.category]; done) | rfl
def Q_rm12 (Z : State) (a1 : Addr) (p1 : Int32) (h0 : Heap) (n0 : Nat) (v : Option Value) (h : Heap) (L : List Loc) : Prop := (v = some (.int (1 : Int32))) ∧ (Fr n0 L) ∧ (h = h0)
theorem d12_0 : decode jdk_21_method_38_code 0 = .ok (.aload_n 0, 1) := by decide +kernel
theorem d12_1 : decode jdk_21_method_38_code 1 = .ok (.getfield 24, 3) := by decide +kernel
theorem d12_4 : decode jdk_21_method_38_code 4 = .ok (.aload_n 0, 1) := by decide +kernel
theorem d12_5 : decode jdk_21_method_38_code 5 = .ok (.getfield 20, 3) := by decide +kernel
theorem d12_8 : decode jdk_21_method_38_code 8 = .ok (.if_icmp .ne 7, 3) := by decide +kernel
theorem d12_11 : decode jdk_21_method_38_code 11 = .ok (.iconst 1, 1) := by decide +kernel
theorem d12_12 : decode jdk_21_method_38_code 12 = .ok (.goto 4, 3) := by decide +kernel
theorem d12_16 : decode jdk_21_method_38_code 16 = .ok (.ireturn, 1) := by decide +kernel
set_option maxRecDepth 65536 in
set_option maxHeartbeats 40000000 in
theorem rm12 (l : Launch) (Z : State) (a0 : Array Value) (hw : ∀ d ∈ tables_1, d.before a0 Z = true) (ws : List Jvm.Cond) (a1 : Addr) (p1 : Int32) (h0 : Heap) (n0 : Nat) (O0 : Old Z n0 h0) (F1 : Fld Z h0 a1 "java/util/ArrayDeque" "head" "I" (.int p1)) (F2 : Fld Z h0 a1 "java/util/ArrayDeque" "tail" "I" (.int p1)) :
    MetFree l (⟨"java/util/ArrayDeque", "isEmpty", "()Z"⟩ : MethodName) (head1 (Jvm.Cond.code (⟨"java/util/ArrayDeque", "isEmpty", "()Z"⟩ : MethodName) jdk_21_method_38_code 1 (some .boolean) :: ws) ({ frames := 0, cells := 0, slots := 0, locals := 0 } : Room)) (fun a U => a = #[(.ref a1)] ∧ Z.Warmed39 U.vm ∧ U.heap = h0) (fun _ _ _ _ _ => True) (fun _ U o U' => ∃ v L, o = .returned v ∧ Q_rm12 Z a1 p1 h0 n0 v U'.heap L ∧ FrameEnd U o U' L ({ frames := 0, cells := 0, slots := 0, locals := 0 } : Room).cells ({ frames := 0, cells := 0, slots := 0, locals := 0 } : Room).slots) := by
  refine MetFree.of_bodySF (plainFor_of_name pn_7) hisR ?_
  intro p e s m args below meth c s₁ Bd hml0 hP hK
  obtain ⟨rfl, hZ, hh⟩ := hP
  have hx := Bd.exec
  have hby := Bd.bytes
  have hml : c.maxLocals = 1 := hml0
  have hown : s.vm.findClass "java/util/ArrayDeque" = some m.cls := findClass_of_methodNamed Bd.named
  have hnm := (name_of_methodNamed Bd.named Bd.method).1
  have X0 : Stand p l e ({ frames := 0, cells := 0, slots := 0, locals := 0 } : Room) s m #[(.ref a1)] below meth c s₁ [] 0 0 := Stand.of_body Bd
  have e0 : s₁.heap = h0 := by rw [← hh, Bd.state]; rfl
  have N0 := Fr.nil n0
  have Z0 : n0 ≤ h0.size := old_le O0
  have pre0 : ∀ t, Steps p.tables e below (s₁.setTop (mkF m 0 #[.val (.ref a1)] [])) t → Steps p.tables e below (s₁.setTop (entryFrame m #[(.ref a1)] 1)) t := fun t k => castTop (ef_rm12 m a1) k
  obtain ⟨T101, X101, e101, st101⟩ := getF X0 hx hZ hown (host := "") (Or.inl (hwk hw 123 rfl)) Via.refl e0 F1 (g := (mkF m 1 #[.val (.ref a1)] [(.ref a1)])) rfl rfl (hb hby d12_1)
  obtain ⟨T102, X102, e102, st102⟩ := getF X101 hx hZ hown (host := "") (Or.inl (hwk hw 125 rfl)) Via.refl e101 F2 (g := (mkF m 5 #[.val (.ref a1)] [(.ref a1), (.int p1)])) rfl rfl (hb hby d12_5)
  obtain ⟨fs, hr, hrun, hended, hW, hsame⟩ := X102.leave (v := some (.int (1 : Int32))) (fun h => by rw [Bd.returns] at h; cases h)
  refine ⟨_, _, pre0 _ ?_, hrun, hended, _, _, rfl, ?_, ⟨_, rfl⟩, hW, hsame.mono (by decide) (by decide)⟩
  · show Steps p.tables e below (s₁.setTop (mkF m 0 #[.val (.ref a1)] [])) _
    refine XS.aloadN X0.here hx rfl (hb hby d12_0) rfl rfl ?_
    show Steps p.tables e below (s₁.setTop (mkF m 1 #[.val (.ref a1)] [(.ref a1)])) _
    refine st101 _ ?_
    show Steps p.tables e below (T101.setTop (mkF m 4 #[.val (.ref a1)] [(.int p1)])) _
    refine XS.aloadN X101.here hx rfl (hb hby d12_4) rfl rfl ?_
    show Steps p.tables e below (T101.setTop (mkF m 5 #[.val (.ref a1)] [(.ref a1), (.int p1)])) _
    refine st102 _ ?_
    show Steps p.tables e below (T102.setTop (mkF m 8 #[.val (.ref a1)] [(.int p1), (.int p1)])) _
    refine XS.icmpNo X102.here hx rfl (hb hby d12_8) rfl (teq (rfl : p1 = p1)).2 ?_
    show Steps p.tables e below (T102.setTop (mkF m 11 #[.val (.ref a1)] [])) _
    refine XS.iconst X102.here hx rfl (hb hby d12_11) ?_
    refine XS.goto X102.here hx rfl (pc0 := 12) (pc' := 16) rfl (hb hby d12_12) (by decide) (by decide) ?_
    show Steps p.tables e below (T102.setTop (mkF m 16 #[.val (.ref a1)] [(.int (1 : Int32))])) _
    exact Jvm.RoadKit.retOut X102 hx Bd.returns rfl (Or.inl ⟨rfl, by simp, _, rfl⟩) (hb hby d12_16) hr
  · show Q_rm12 Z a1 p1 h0 n0 _ T102.heap _
    rw [e102]
    unfold Q_rm12
    exact ⟨rfl, N0, rfl⟩
theorem ef_rm13 (m : MethodId) (x0 : Addr) (x1 : Addr) (x2 : Addr) (x3 : Int32) (x4 : Int32) (x5 : Int32) : entryFrame m #[(.ref x0), (.ref x1), (.ref x2), (.int x3), (.int x4), (.int x5)] 6 = mkF m 0 #[.val (.ref x0), .val (.ref x1), .val (.ref x2), .val (.int x3), .val (.int x4), .val (.int x5)] [] := by first | (simp [entryFrame, mkF, argsToLocals, Value.category]; done) | rfl
def Q_rm13 (Z : State) (a1 : Addr) (d1 : Addr) (s2 : Addr) (p3 : Int32) (p4 : Int32) (p5 : Int32) (wd : Addr) (h0 : Heap) (n0 : Nat) (v : Option Value) (h : Heap) (L : List Loc) : Prop := (v = none) ∧ (Fr n0 L) ∧ (Keep h0 h [a1]) ∧ (Exa Z h a1 "com/example/fixlore/fixlore/lang/GraphBuilder$Draft")
theorem pn_8 : plainName "com/example/fixlore/fixlore/lang/GraphBuilder$Draft" = true := by first | (simp [plainName, overriddenIn]; done) | decide +kernel
theorem d13_0 : decode prog_27_method_1_code 0 = .ok (.aload_n 0, 1) := by decide +kernel
theorem d13_1 : decode prog_27_method_1_code 1 = .ok (.invokespecial 1, 3) := by decide +kernel
theorem d13_4 : decode prog_27_method_1_code 4 = .ok (.aload_n 0, 1) := by decide +kernel
theorem d13_5 : decode prog_27_method_1_code 5 = .ok (.new 7, 3) := by decide +kernel
theorem d13_8 : decode prog_27_method_1_code 8 = .ok (.dup, 1) := by decide +kernel
theorem d13_9 : decode prog_27_method_1_code 9 = .ok (.invokespecial 9, 3) := by decide +kernel
theorem d13_12 : decode prog_27_method_1_code 12 = .ok (.putfield 10, 3) := by decide +kernel
theorem d13_15 : decode prog_27_method_1_code 15 = .ok (.aload_n 0, 1) := by decide +kernel
theorem d13_16 : decode prog_27_method_1_code 16 = .ok (.aload_n 1, 1) := by decide +kernel
theorem d13_17 : decode prog_27_method_1_code 17 = .ok (.putfield 16, 3) := by decide +kernel
theorem d13_20 : decode prog_27_method_1_code 20 = .ok (.aload_n 0, 1) := by decide +kernel
theorem d13_21 : decode prog_27_method_1_code 21 = .ok (.aload_n 2, 1) := by decide +kernel
theorem d13_22 : decode prog_27_method_1_code 22 = .ok (.putfield 20, 3) := by decide +kernel
theorem d13_25 : decode prog_27_method_1_code 25 = .ok (.aload_n 0, 1) := by decide +kernel
theorem d13_26 : decode prog_27_method_1_code 26 = .ok (.iload_n 3, 1) := by decide +kernel
theorem d13_27 : decode prog_27_method_1_code 27 = .ok (.putfield 24, 3) := by decide +kernel
theorem d13_30 : decode prog_27_method_1_code 30 = .ok (.aload_n 0, 1) := by decide +kernel
theorem d13_31 : decode prog_27_method_1_code 31 = .ok (.iload 4, 2) := by decide +kernel
theorem d13_33 : decode prog_27_method_1_code 33 = .ok (.putfield 28, 3) := by decide +kernel
theorem d13_36 : decode prog_27_method_1_code 36 = .ok (.aload_n 0, 1) := by decide +kernel
theorem d13_37 : decode prog_27_method_1_code 37 = .ok (.iload 5, 2) := by decide +kernel
theorem d13_39 : decode prog_27_method_1_code 39 = .ok (.putfield 31, 3) := by decide +kernel
theorem d13_42 : decode prog_27_method_1_code 42 = .ok (.return_, 1) := by decide +kernel
set_option maxRecDepth 65536 in
set_option maxHeartbeats 40000000 in
theorem rm13 (l : Launch) (Z : State) (a0 : Array Value) (hw : ∀ d ∈ tables_1, d.before a0 Z = true) (ws : List Jvm.Cond) (a1 : Addr) (d1 : Addr) (s2 : Addr) (p3 : Int32) (p4 : Int32) (p5 : Int32) (wd : Addr) (h0 : Heap) (n0 : Nat) (O0 : Old Z n0 h0) (E1 : Exa Z h0 a1 "com/example/fixlore/fixlore/lang/GraphBuilder$Draft") (g1 : n0 ≤ a1) (D0 : Fld Z h0 a1 "com/example/fixlore/fixlore/lang/GraphBuilder$Draft" "steps" "Ljava/util/List;" .null) (D1 : Fld Z h0 a1 "com/example/fixlore/fixlore/lang/GraphBuilder$Draft" "kind" "Lcom/example/fixlore/fixlore/lang/SemanticGraph$Kind;" .null) (D2 : Fld Z h0 a1 "com/example/fixlore/fixlore/lang/GraphBuilder$Draft" "label" "Ljava/lang/String;" .null) (D3 : Fld Z h0 a1 "com/example/fixlore/fixlore/lang/GraphBuilder$Draft" "line" "I" (.int (0 : Int32))) (D4 : Fld Z h0 a1 "com/example/fixlore/fixlore/lang/GraphBuilder$Draft" "column" "I" (.int (0 : Int32))) (D5 : Fld Z h0 a1 "com/example/fixlore/fixlore/lang/GraphBuilder$Draft" "tryPart" "I" (.int (0 : Int32))) (SD : Sta Z Z.heap "java/util/ArrayList" "DEFAULTCAPACITY_EMPTY_ELEMENTDATA" "[Ljava/lang/Object;" (.ref wd)) :
    MetFree l (⟨"com/example/fixlore/fixlore/lang/GraphBuilder$Draft", "<init>", "(Lcom/example/fixlore/fixlore/lang/SemanticGraph$Kind;Ljava/lang/String;III)V"⟩ : MethodName) (head1 (Jvm.Cond.code (⟨"com/example/fixlore/fixlore/lang/GraphBuilder$Draft", "<init>", "(Lcom/example/fixlore/fixlore/lang/SemanticGraph$Kind;Ljava/lang/String;III)V"⟩ : MethodName) prog_27_method_1_code 6 none :: ws) ({ frames := 4, cells := 1, slots := 3, locals := 50 } : Room)) (fun a U => a = #[(.ref a1), (.ref d1), (.ref s2), (.int p3), (.int p4), (.int p5)] ∧ Z.Warmed39 U.vm ∧ U.heap = h0) (fun _ _ _ _ _ => True) (fun _ U o U' => ∃ v L, o = .returned v ∧ Q_rm13 Z a1 d1 s2 p3 p4 p5 wd h0 n0 v U'.heap L ∧ FrameEnd U o U' L ({ frames := 4, cells := 1, slots := 3, locals := 50 } : Room).cells ({ frames := 4, cells := 1, slots := 3, locals := 50 } : Room).slots) := by
  refine MetFree.of_bodySF (plainFor_of_name pn_8) hisR ?_
  intro p e s m args below meth c s₁ Bd hml0 hP hK
  obtain ⟨rfl, hZ, hh⟩ := hP
  have hx := Bd.exec
  have hby := Bd.bytes
  have hml : c.maxLocals = 6 := hml0
  have hown : s.vm.findClass "com/example/fixlore/fixlore/lang/GraphBuilder$Draft" = some m.cls := findClass_of_methodNamed Bd.named
  have hnm := (name_of_methodNamed Bd.named Bd.method).1
  have X0 : Stand p l e ({ frames := 4, cells := 1, slots := 3, locals := 50 } : Room) s m #[(.ref a1), (.ref d1), (.ref s2), (.int p3), (.int p4), (.int p5)] below meth c s₁ [] 0 0 := Stand.of_body Bd
  have e0 : s₁.heap = h0 := by rw [← hh, Bd.state]; rfl
  have N0 := Fr.nil n0
  have Z0 : n0 ≤ h0.size := old_le O0
  have pre0 : ∀ t, Steps p.tables e below (s₁.setTop (mkF m 0 #[.val (.ref a1), .val (.ref d1), .val (.ref s2), .val (.int p3), .val (.int p4), .val (.int p5)] [])) t → Steps p.tables e below (s₁.setTop (entryFrame m #[(.ref a1), (.ref d1), (.ref s2), (.int p3), (.int p4), (.int p5)] 6)) t := fun t k => castTop (ef_rm13 m a1 d1 s2 p3 p4 p5) k
  obtain ⟨T101, X101, e101, st101⟩ := initO X0 hx hZ hown (hwk hw 133 rfl) (hwk hw 7 rfl) (hwk hw 8 rfl) e0 (g := (mkF m 1 #[.val (.ref a1), .val (.ref d1), .val (.ref s2), .val (.int p3), .val (.int p4), .val (.int p5)] [(.ref a1)])) rfl (by rw [hml]; rfl) rfl (hb hby d13_1) (by decide) (W := 0) (by show 2 * 0 + _ ≤ _; exact Nat.le_of_eq rfl) (by decide)
  obtain ⟨T102, h102, X102, e102, E102, A102, D102, -, st102⟩ := newO X101 hx hZ hown (hwk hw 134 rfl) (hwk hw 10 rfl) (hwk hw 11 rfl) e101 (g := (mkF m 5 #[.val (.ref a1), .val (.ref d1), .val (.ref s2), .val (.int p3), .val (.int p4), .val (.int p5)] [(.ref a1)])) rfl (hb hby d13_5) (by decide) (by decide)
  obtain ⟨b102, g102⟩ : ∃ z, z = h0.size := ⟨_, rfl⟩
  rw [← g102] at A102 D102 st102
  have g_b102 : n0 ≤ b102 := Nat.le_trans (old_le O0) (Nat.le_of_eq g102.symm)
  have O103 : Old Z n0 h102 := Old.ext O0 E102
  obtain ⟨_, _, ⟨T104, L104, k104, n104⟩, -, X104, ⟨Lc104, hQ104, l104, y104, z104⟩, st104⟩ := X102.specialBack hx (y := (⟨"java/util/ArrayList", "<init>", "()V"⟩ : MethodName)) rfl hown (mvT hZ (hwk hw 135 rfl)) (mvT hZ (hwk hw 13 rfl)) (mvT hZ (hwk hw 14 rfl)) (by decide) (backOf (W := 2) (rm3 l Z a0 hw [] b102 wd h102 n0 O103 A102 g_b102 (show Fld Z h102 b102 "java/util/AbstractList" "modCount" "I" (.int (0 : Int32)) from D102 (Or.inl (hwk hw 29 rfl)) (ty := .int) (by decide)) (show Fld Z h102 b102 "java/util/ArrayList" "elementData" "[Ljava/lang/Object;" .null from D102 (Or.inl (hwk hw 32 rfl)) (ty := (.array (.object "java/lang/Object"))) (by decide)) (show Fld Z h102 b102 "java/util/ArrayList" "size" "I" (.int (0 : Int32)) from D102 (Or.inl (hwk hw 160 rfl)) (ty := .int) (by decide)) SD) hZ (hwk hw 14 rfl) (hwk hw 11 rfl) (by decide) (by decide)) (g := (mkF m 9 #[.val (.ref a1), .val (.ref d1), .val (.ref s2), .val (.int p3), .val (.int p4), .val (.int p5)] [(.ref b102), (.ref b102), (.ref a1)])) rfl (by rw [hml]; rfl) (Steps.refl _) (a := b102) (argsL := []) (rest := [(.ref b102), (.ref a1)]) (lenOf pd_0 rfl) rfl (by show 2 * 0 + _ ≤ _; exact Nat.le_of_eq rfl) (hb hby d13_9) (fun _ _ => ⟨rfl, e102, (by decide : 1 + 0 ≤ _), (by decide : 3 + 0 ≤ _)⟩)
  dsimp only [Pt.U, Pt.locs, Pt.cells, Pt.slots] at X104 l104 y104 z104 st104 hQ104
  subst l104 y104 z104
  unfold Q_rm3 at hQ104
  obtain ⟨rfl, N104q, K104, f104_0, f104_1, f104_2, f104_3⟩ := hQ104
  have N104 := Fr.app N0 N104q
  have c105 : Exa Z T104.heap a1 "com/example/fixlore/fixlore/lang/GraphBuilder$Draft" := (Exa.keep (Exa.ext E102 E1) K104)
  have c106 : Fld Z T104.heap a1 "com/example/fixlore/fixlore/lang/GraphBuilder$Draft" "steps" "Ljava/util/List;" .null := (Fld.keep (Fld.ext E102 D0) K104 (ninS (ne_exa c105 f104_0 (by decide)) nin0))
  obtain ⟨T107, h107, X107, e107, W107, st107⟩ := putF X104 hx hZ hown (host := "") (Or.inl (hwk hw 136 rfl)) Via.refl (rfl : T104.heap = T104.heap) c106 c105 (Or.inr ⟨(hwk hw 137 rfl), rfl, hnm⟩) (hwk hw 128 rfl) (ty := (.object "java/util/List")) (by decide) rfl rfl (g := (mkF m 12 #[.val (.ref a1), .val (.ref d1), .val (.ref s2), .val (.int p3), .val (.int p4), .val (.int p5)] [(.ref b102), (.ref a1)])) rfl rfl (hb hby d13_12)
  have F107 : Fld Z h107 a1 "com/example/fixlore/fixlore/lang/GraphBuilder$Draft" "steps" "Ljava/util/List;" (.ref b102) := Fld.same W107 c106
  have N107 := Fr.snoc X107 N104 g1
  have c108 : Exa Z h107 a1 "com/example/fixlore/fixlore/lang/GraphBuilder$Draft" := (Exa.wr W107 c105)
  have c109 : Fld Z h107 a1 "com/example/fixlore/fixlore/lang/GraphBuilder$Draft" "kind" "Lcom/example/fixlore/fixlore/lang/SemanticGraph$Kind;" .null := (Fld.other W107 (Fld.keep (Fld.ext E102 D1) K104 (ninS (ne_exa c105 f104_0 (by decide)) nin0)) (Or.inr (slot_ne (Or.inl (hwk hw 139 rfl)) (Or.inr (hwk hw 137 rfl)) (by decide) (t := (.object "com/example/fixlore/fixlore/lang/SemanticGraph$Kind")) (t' := (.object "java/util/List")) (by decide) (by decide))))
  obtain ⟨T110, h110, X110, e110, W110, st110⟩ := putF X107 hx hZ hown (host := "") (Or.inl (hwk hw 138 rfl)) Via.refl e107 c109 c108 (Or.inl (hwk hw 139 rfl)) (hwk hw 128 rfl) (ty := (.object "com/example/fixlore/fixlore/lang/SemanticGraph$Kind")) (by decide) rfl rfl (g := (mkF m 17 #[.val (.ref a1), .val (.ref d1), .val (.ref s2), .val (.int p3), .val (.int p4), .val (.int p5)] [(.ref d1), (.ref a1)])) rfl rfl (hb hby d13_17)
  have F110 : Fld Z h110 a1 "com/example/fixlore/fixlore/lang/GraphBuilder$Draft" "kind" "Lcom/example/fixlore/fixlore/lang/SemanticGraph$Kind;" (.ref d1) := Fld.same W110 c109
  have N110 := Fr.snoc X110 N107 g1
  have c111 : Exa Z h110 a1 "com/example/fixlore/fixlore/lang/GraphBuilder$Draft" := (Exa.wr W110 c108)
  have c112 : Fld Z h110 a1 "com/example/fixlore/fixlore/lang/GraphBuilder$Draft" "label" "Ljava/lang/String;" .null := (Fld.other W110 (Fld.other W107 (Fld.keep (Fld.ext E102 D2) K104 (ninS (ne_exa c105 f104_0 (by decide)) nin0)) (Or.inr (slot_ne (Or.inr (hwk hw 141 rfl)) (Or.inr (hwk hw 137 rfl)) (by decide) (t := (.object "java/lang/String")) (t' := (.object "java/util/List")) (by decide) (by decide)))) (Or.inr (slot_ne (Or.inr (hwk hw 141 rfl)) (Or.inl (hwk hw 139 rfl)) (by decide) (t := (.object "java/lang/String")) (t' := (.object "com/example/fixlore/fixlore/lang/SemanticGraph$Kind")) (by decide) (by decide))))
  obtain ⟨T113, h113, X113, e113, W113, st113⟩ := putF X110 hx hZ hown (host := "") (Or.inl (hwk hw 140 rfl)) Via.refl e110 c112 c111 (Or.inr ⟨(hwk hw 141 rfl), rfl, hnm⟩) (hwk hw 128 rfl) (ty := (.object "java/lang/String")) (by decide) rfl rfl (g := (mkF m 22 #[.val (.ref a1), .val (.ref d1), .val (.ref s2), .val (.int p3), .val (.int p4), .val (.int p5)] [(.ref s2), (.ref a1)])) rfl rfl (hb hby d13_22)
  have F113 : Fld Z h113 a1 "com/example/fixlore/fixlore/lang/GraphBuilder$Draft" "label" "Ljava/lang/String;" (.ref s2) := Fld.same W113 c112
  have N113 := Fr.snoc X113 N110 g1
  have c114 : Exa Z h113 a1 "com/example/fixlore/fixlore/lang/GraphBuilder$Draft" := (Exa.wr W113 c111)
  have c115 : Fld Z h113 a1 "com/example/fixlore/fixlore/lang/GraphBuilder$Draft" "line" "I" (.int (0 : Int32)) := (Fld.other W113 (Fld.other W110 (Fld.other W107 (Fld.keep (Fld.ext E102 D3) K104 (ninS (ne_exa c105 f104_0 (by decide)) nin0)) (Or.inr (slot_ne (Or.inr (hwk hw 143 rfl)) (Or.inr (hwk hw 137 rfl)) (by decide) (t := .int) (t' := (.object "java/util/List")) (by decide) (by decide)))) (Or.inr (slot_ne (Or.inr (hwk hw 143 rfl)) (Or.inl (hwk hw 139 rfl)) (by decide) (t := .int) (t' := (.object "com/example/fixlore/fixlore/lang/SemanticGraph$Kind")) (by decide) (by decide)))) (Or.inr (slot_ne (Or.inr (hwk hw 143 rfl)) (Or.inr (hwk hw 141 rfl)) (by decide) (t := .int) (t' := (.object "java/lang/String")) (by decide) (by decide))))
  obtain ⟨T116, h116, X116, e116, W116, st116⟩ := putF X113 hx hZ hown (host := "") (Or.inl (hwk hw 142 rfl)) Via.refl e113 c115 c114 (Or.inr ⟨(hwk hw 143 rfl), rfl, hnm⟩) (hwk hw 128 rfl) (ty := .int) (by decide) rfl rfl (g := (mkF m 27 #[.val (.ref a1), .val (.ref d1), .val (.ref s2), .val (.int p3), .val (.int p4), .val (.int p5)] [(.int p3), (.ref a1)])) rfl rfl (hb hby d13_27)
  have F116 : Fld Z h116 a1 "com/example/fixlore/fixlore/lang/GraphBuilder$Draft" "line" "I" (.int p3) := Fld.same W116 c115
  have N116 := Fr.snoc X116 N113 g1
  have c117 : Exa Z h116 a1 "com/example/fixlore/fixlore/lang/GraphBuilder$Draft" := (Exa.wr W116 c114)
  have c118 : Fld Z h116 a1 "com/example/fixlore/fixlore/lang/GraphBuilder$Draft" "column" "I" (.int (0 : Int32)) := (Fld.other W116 (Fld.other W113 (Fld.other W110 (Fld.other W107 (Fld.keep (Fld.ext E102 D4) K104 (ninS (ne_exa c105 f104_0 (by decide)) nin0)) (Or.inr (slot_ne (Or.inr (hwk hw 145 rfl)) (Or.inr (hwk hw 137 rfl)) (by decide) (t := .int) (t' := (.object "java/util/List")) (by decide) (by decide)))) (Or.inr (slot_ne (Or.inr (hwk hw 145 rfl)) (Or.inl (hwk hw 139 rfl)) (by decide) (t := .int) (t' := (.object "com/example/fixlore/fixlore/lang/SemanticGraph$Kind")) (by decide) (by decide)))) (Or.inr (slot_ne (Or.inr (hwk hw 145 rfl)) (Or.inr (hwk hw 141 rfl)) (by decide) (t := .int) (t' := (.object "java/lang/String")) (by decide) (by decide)))) (Or.inr (slot_ne (Or.inr (hwk hw 145 rfl)) (Or.inr (hwk hw 143 rfl)) (by decide) (t := .int) (t' := .int) (by decide) (by decide))))
  obtain ⟨T119, h119, X119, e119, W119, st119⟩ := putF X116 hx hZ hown (host := "") (Or.inl (hwk hw 144 rfl)) Via.refl e116 c118 c117 (Or.inr ⟨(hwk hw 145 rfl), rfl, hnm⟩) (hwk hw 128 rfl) (ty := .int) (by decide) rfl rfl (g := (mkF m 33 #[.val (.ref a1), .val (.ref d1), .val (.ref s2), .val (.int p3), .val (.int p4), .val (.int p5)] [(.int p4), (.ref a1)])) rfl rfl (hb hby d13_33)
  have F119 : Fld Z h119 a1 "com/example/fixlore/fixlore/lang/GraphBuilder$Draft" "column" "I" (.int p4) := Fld.same W119 c118
  have N119 := Fr.snoc X119 N116 g1
  have c120 : Exa Z h119 a1 "com/example/fixlore/fixlore/lang/GraphBuilder$Draft" := (Exa.wr W119 c117)
  have c121 : Fld Z h119 a1 "com/example/fixlore/fixlore/lang/GraphBuilder$Draft" "tryPart" "I" (.int (0 : Int32)) := (Fld.other W119 (Fld.other W116 (Fld.other W113 (Fld.other W110 (Fld.other W107 (Fld.keep (Fld.ext E102 D5) K104 (ninS (ne_exa c105 f104_0 (by decide)) nin0)) (Or.inr (slot_ne (Or.inr (hwk hw 147 rfl)) (Or.inr (hwk hw 137 rfl)) (by decide) (t := .int) (t' := (.object "java/util/List")) (by decide) (by decide)))) (Or.inr (slot_ne (Or.inr (hwk hw 147 rfl)) (Or.inl (hwk hw 139 rfl)) (by decide) (t := .int) (t' := (.object "com/example/fixlore/fixlore/lang/SemanticGraph$Kind")) (by decide) (by decide)))) (Or.inr (slot_ne (Or.inr (hwk hw 147 rfl)) (Or.inr (hwk hw 141 rfl)) (by decide) (t := .int) (t' := (.object "java/lang/String")) (by decide) (by decide)))) (Or.inr (slot_ne (Or.inr (hwk hw 147 rfl)) (Or.inr (hwk hw 143 rfl)) (by decide) (t := .int) (t' := .int) (by decide) (by decide)))) (Or.inr (slot_ne (Or.inr (hwk hw 147 rfl)) (Or.inr (hwk hw 145 rfl)) (by decide) (t := .int) (t' := .int) (by decide) (by decide))))
  obtain ⟨T122, h122, X122, e122, W122, st122⟩ := putF X119 hx hZ hown (host := "") (Or.inl (hwk hw 146 rfl)) Via.refl e119 c121 c120 (Or.inr ⟨(hwk hw 147 rfl), rfl, hnm⟩) (hwk hw 128 rfl) (ty := .int) (by decide) rfl rfl (g := (mkF m 39 #[.val (.ref a1), .val (.ref d1), .val (.ref s2), .val (.int p3), .val (.int p4), .val (.int p5)] [(.int p5), (.ref a1)])) rfl rfl (hb hby d13_39)
  have F122 : Fld Z h122 a1 "com/example/fixlore/fixlore/lang/GraphBuilder$Draft" "tryPart" "I" (.int p5) := Fld.same W122 c121
  have N122 := Fr.snoc X122 N119 g1
  have K123 : Keep h0 h102 [a1] := Keep.ext (Keep.refl h0 [a1]) E102
  have K124 : Keep h0 T104.heap [a1] := Keep.trans K123 K104 (allS (Or.inr (Nat.le_trans (Nat.le_refl _) (Nat.le_of_eq g102.symm))) all0)
  have K125 : Keep h0 h107 [a1] := Keep.wr K124 W107 (Or.inl (List.mem_of_getElem? (i := 0) rfl))
  have K126 : Keep h0 h110 [a1] := Keep.wr K125 W110 (Or.inl (List.mem_of_getElem? (i := 0) rfl))
  have K127 : Keep h0 h113 [a1] := Keep.wr K126 W113 (Or.inl (List.mem_of_getElem? (i := 0) rfl))
  have K128 : Keep h0 h116 [a1] := Keep.wr K127 W116 (Or.inl (List.mem_of_getElem? (i := 0) rfl))
  have K129 : Keep h0 h119 [a1] := Keep.wr K128 W119 (Or.inl (List.mem_of_getElem? (i := 0) rfl))
  have K130 : Keep h0 h122 [a1] := Keep.wr K129 W122 (Or.inl (List.mem_of_getElem? (i := 0) rfl))
  have c131 : Exa Z h122 a1 "com/example/fixlore/fixlore/lang/GraphBuilder$Draft" := (Exa.wr W122 c120)
  obtain ⟨fs, hr, hrun, hended, hW, hsame⟩ := X122.leave (v := none) (fun _ => rfl)
  refine ⟨_, _, pre0 _ ?_, hrun, hended, _, _, rfl, ?_, ⟨_, rfl⟩, hW, hsame.mono (by decide) (by decide)⟩
  · show Steps p.tables e below (s₁.setTop (mkF m 0 #[.val (.ref a1), .val (.ref d1), .val (.ref s2), .val (.int p3), .val (.int p4), .val (.int p5)] [])) _
    refine XS.aloadN X0.here hx rfl (hb hby d13_0) rfl rfl ?_
    show Steps p.tables e below (s₁.setTop (mkF m 1 #[.val (.ref a1), .val (.ref d1), .val (.ref s2), .val (.int p3), .val (.int p4), .val (.int p5)] [(.ref a1)])) _
    refine st101 _ ?_
    show Steps p.tables e below (T101.setTop (mkF m 4 #[.val (.ref a1), .val (.ref d1), .val (.ref s2), .val (.int p3), .val (.int p4), .val (.int p5)] [])) _
    refine XS.aloadN X101.here hx rfl (hb hby d13_4) rfl rfl ?_
    show Steps p.tables e below (T101.setTop (mkF m 5 #[.val (.ref a1), .val (.ref d1), .val (.ref s2), .val (.int p3), .val (.int p4), .val (.int p5)] [(.ref a1)])) _
    refine st102 _ ?_
    show Steps p.tables e below (T102.setTop (mkF m 8 #[.val (.ref a1), .val (.ref d1), .val (.ref s2), .val (.int p3), .val (.int p4), .val (.int p5)] [(.ref b102), (.ref a1)])) _
    refine XS.dup X102.here hx rfl (hb hby d13_8) rfl rfl ?_
    show Steps p.tables e below (T102.setTop (mkF m 9 #[.val (.ref a1), .val (.ref d1), .val (.ref s2), .val (.int p3), .val (.int p4), .val (.int p5)] [(.ref b102), (.ref b102), (.ref a1)])) _
    refine st104.trans ?_
    show Steps p.tables e below (T104.setTop (mkF m 12 #[.val (.ref a1), .val (.ref d1), .val (.ref s2), .val (.int p3), .val (.int p4), .val (.int p5)] [(.ref b102), (.ref a1)])) _
    refine st107 _ ?_
    show Steps p.tables e below (T107.setTop (mkF m 15 #[.val (.ref a1), .val (.ref d1), .val (.ref s2), .val (.int p3), .val (.int p4), .val (.int p5)] [])) _
    refine XS.aloadN X107.here hx rfl (hb hby d13_15) rfl rfl ?_
    refine XS.aloadN X107.here hx rfl (hb hby d13_16) rfl rfl ?_
    show Steps p.tables e below (T107.setTop (mkF m 17 #[.val (.ref a1), .val (.ref d1), .val (.ref s2), .val (.int p3), .val (.int p4), .val (.int p5)] [(.ref d1), (.ref a1)])) _
    refine st110 _ ?_
    show Steps p.tables e below (T110.setTop (mkF m 20 #[.val (.ref a1), .val (.ref d1), .val (.ref s2), .val (.int p3), .val (.int p4), .val (.int p5)] [])) _
    refine XS.aloadN X110.here hx rfl (hb hby d13_20) rfl rfl ?_
    refine XS.aloadN X110.here hx rfl (hb hby d13_21) rfl rfl ?_
    show Steps p.tables e below (T110.setTop (mkF m 22 #[.val (.ref a1), .val (.ref d1), .val (.ref s2), .val (.int p3), .val (.int p4), .val (.int p5)] [(.ref s2), (.ref a1)])) _
    refine st113 _ ?_
    show Steps p.tables e below (T113.setTop (mkF m 25 #[.val (.ref a1), .val (.ref d1), .val (.ref s2), .val (.int p3), .val (.int p4), .val (.int p5)] [])) _
    refine XS.aloadN X113.here hx rfl (hb hby d13_25) rfl rfl ?_
    refine XS.iloadN X113.here hx rfl (hb hby d13_26) rfl ?_
    show Steps p.tables e below (T113.setTop (mkF m 27 #[.val (.ref a1), .val (.ref d1), .val (.ref s2), .val (.int p3), .val (.int p4), .val (.int p5)] [(.int p3), (.ref a1)])) _
    refine st116 _ ?_
    show Steps p.tables e below (T116.setTop (mkF m 30 #[.val (.ref a1), .val (.ref d1), .val (.ref s2), .val (.int p3), .val (.int p4), .val (.int p5)] [])) _
    refine XS.aloadN X116.here hx rfl (hb hby d13_30) rfl rfl ?_
    refine XS.iload X116.here hx rfl (hb hby d13_31) rfl ?_
    show Steps p.tables e below (T116.setTop (mkF m 33 #[.val (.ref a1), .val (.ref d1), .val (.ref s2), .val (.int p3), .val (.int p4), .val (.int p5)] [(.int p4), (.ref a1)])) _
    refine st119 _ ?_
    show Steps p.tables e below (T119.setTop (mkF m 36 #[.val (.ref a1), .val (.ref d1), .val (.ref s2), .val (.int p3), .val (.int p4), .val (.int p5)] [])) _
    refine XS.aloadN X119.here hx rfl (hb hby d13_36) rfl rfl ?_
    refine XS.iload X119.here hx rfl (hb hby d13_37) rfl ?_
    show Steps p.tables e below (T119.setTop (mkF m 39 #[.val (.ref a1), .val (.ref d1), .val (.ref s2), .val (.int p3), .val (.int p4), .val (.int p5)] [(.int p5), (.ref a1)])) _
    refine st122 _ ?_
    show Steps p.tables e below (T122.setTop (mkF m 42 #[.val (.ref a1), .val (.ref d1), .val (.ref s2), .val (.int p3), .val (.int p4), .val (.int p5)] [])) _
    exact X122.returnOut hx Bd.returns (hb hby d13_42) hr
  · show Q_rm13 Z a1 d1 s2 p3 p4 p5 wd h0 n0 _ T122.heap _
    rw [e122]
    unfold Q_rm13
    exact ⟨rfl, N122, K130, c131⟩
theorem ef_rm18 (m : MethodId) (x0 : Int32) (x1 : Int32) : entryFrame m #[(.int x0), (.int x1)] 2 = mkF m 0 #[.val (.int x0), .val (.int x1)] [] := by first | (simp [entryFrame, mkF, argsToLocals, Value.category]; done) | rfl
def Q_rm18 (Z : State)  (h0 : Heap) (n0 : Nat) (v : Option Value) (h : Heap) (L : List Loc) : Prop := (v = some (.int (10 : Int32))) ∧ (Fr n0 L) ∧ (h = h0)
theorem d18_0 : decode jdk_29_method_65_code 0 = .ok (.iload_n 0, 1) := by decide +kernel
theorem d18_1 : decode jdk_29_method_65_code 1 = .ok (.iload_n 1, 1) := by decide +kernel
theorem d18_2 : decode jdk_29_method_65_code 2 = .ok (.if_icmp .lt 7, 3) := by decide +kernel
theorem d18_5 : decode jdk_29_method_65_code 5 = .ok (.iload_n 0, 1) := by decide +kernel
theorem d18_6 : decode jdk_29_method_65_code 6 = .ok (.goto 4, 3) := by decide +kernel
theorem d18_10 : decode jdk_29_method_65_code 10 = .ok (.ireturn, 1) := by decide +kernel
set_option maxRecDepth 65536 in
set_option maxHeartbeats 40000000 in
theorem rm18 (l : Launch) (Z : State) (a0 : Array Value) (hw : ∀ d ∈ tables_1, d.before a0 Z = true) (ws : List Jvm.Cond)  (h0 : Heap) (n0 : Nat) (O0 : Old Z n0 h0)  :
    MetFree l (⟨"java/lang/Math", "max", "(II)I"⟩ : MethodName) (head1 (Jvm.Cond.code (⟨"java/lang/Math", "max", "(II)I"⟩ : MethodName) jdk_29_method_65_code 2 (some .int) :: ws) ({ frames := 0, cells := 0, slots := 0, locals := 0 } : Room)) (fun a U => a = #[(.int (10 : Int32)), (.int (1 : Int32))] ∧ Z.Warmed39 U.vm ∧ U.heap = h0) (fun _ _ _ _ _ => True) (fun _ U o U' => ∃ v L, o = .returned v ∧ Q_rm18 Z  h0 n0 v U'.heap L ∧ FrameEnd U o U' L ({ frames := 0, cells := 0, slots := 0, locals := 0 } : Room).cells ({ frames := 0, cells := 0, slots := 0, locals := 0 } : Room).slots) := by
  refine MetFree.of_bodySF (Jvm.Free.JP.mathPlain rfl (by decide +kernel)) hisR ?_
  intro p e s m args below meth c s₁ Bd hml0 hP hK
  obtain ⟨rfl, hZ, hh⟩ := hP
  have hx := Bd.exec
  have hby := Bd.bytes
  have hml : c.maxLocals = 2 := hml0
  have hown : s.vm.findClass "java/lang/Math" = some m.cls := findClass_of_methodNamed Bd.named
  have hnm := (name_of_methodNamed Bd.named Bd.method).1
  have X0 : Stand p l e ({ frames := 0, cells := 0, slots := 0, locals := 0 } : Room) s m #[(.int (10 : Int32)), (.int (1 : Int32))] below meth c s₁ [] 0 0 := Stand.of_body Bd
  have e0 : s₁.heap = h0 := by rw [← hh, Bd.state]; rfl
  have N0 := Fr.nil n0
  have Z0 : n0 ≤ h0.size := old_le O0
  have pre0 : ∀ t, Steps p.tables e below (s₁.setTop (mkF m 0 #[.val (.int (10 : Int32)), .val (.int (1 : Int32))] [])) t → Steps p.tables e below (s₁.setTop (entryFrame m #[(.int (10 : Int32)), (.int (1 : Int32))] 2)) t := fun t k => castTop (ef_rm18 m (10 : Int32) (1 : Int32)) k
  obtain ⟨fs, hr, hrun, hended, hW, hsame⟩ := X0.leave (v := some (.int (10 : Int32))) (fun h => by rw [Bd.returns] at h; cases h)
  refine ⟨_, _, pre0 _ ?_, hrun, hended, _, _, rfl, ?_, ⟨_, rfl⟩, hW, hsame.mono (by decide) (by decide)⟩
  · show Steps p.tables e below (s₁.setTop (mkF m 0 #[.val (.int (10 : Int32)), .val (.int (1 : Int32))] [])) _
    refine XS.iloadN X0.here hx rfl (hb hby d18_0) rfl ?_
    refine XS.iloadN X0.here hx rfl (hb hby d18_1) rfl ?_
    refine XS.icmpNo X0.here hx rfl (hb hby d18_2) rfl (flt (by decide : ¬ ((10 : Int32) < (1 : Int32)))).1 ?_
    show Steps p.tables e below (s₁.setTop (mkF m 5 #[.val (.int (10 : Int32)), .val (.int (1 : Int32))] [])) _
    refine XS.iloadN X0.here hx rfl (hb hby d18_5) rfl ?_
    refine XS.goto X0.here hx rfl (pc0 := 6) (pc' := 10) rfl (hb hby d18_6) (by decide) (by decide) ?_
    show Steps p.tables e below (s₁.setTop (mkF m 10 #[.val (.int (10 : Int32)), .val (.int (1 : Int32))] [(.int (10 : Int32))])) _
    exact Jvm.RoadKit.retOut X0 hx Bd.returns rfl (Or.inl ⟨rfl, by simp, _, rfl⟩) (hb hby d18_10) hr
  · show Q_rm18 Z  h0 n0 _ s₁.heap _
    rw [e0]
    unfold Q_rm18
    exact ⟨rfl, N0, rfl⟩
theorem ef_rm17 (m : MethodId) (x0 : Addr) (x1 : Int32) : entryFrame m #[(.ref x0), (.int x1)] 4 = mkF m 0 #[.val (.ref x0), .val (.int x1), .unset, .unset] [] := by first | (simp [entryFrame, mkF, argsToLocals, Value.category]; done) | rfl
def Q_rm17 (Z : State) (a1 : Addr) (m1 : Int32) (wd : Addr) (kd : ClassId) (vd : List Value) (h0 : Heap) (n0 : Nat) (v : Option Value) (h : Heap) (L : List Loc) : Prop := ∃ t : Addr, ∃ k : ClassId, (v = some (.ref t)) ∧ (Fr n0 L) ∧ (Keep h0 h [a1]) ∧ (h0.size ≤ t) ∧ (Exa Z h a1 "java/util/ArrayList") ∧ (Fld Z h a1 "java/util/ArrayList" "elementData" "[Ljava/lang/Object;" (.ref t)) ∧ (Fld Z h a1 "java/util/ArrayList" "size" "I" (.int (0 : Int32))) ∧ (Fld Z h a1 "java/util/AbstractList" "modCount" "I" (.int m1)) ∧ (Arv Z h t k (.object "java/lang/Object") (10 : Int32) [.null, .null, .null, .null, .null, .null, .null, .null, .null, .null] .null) ∧ (Ovr Z k "java/lang/Object")
theorem d17_0 : decode jdk_38_method_6_code 0 = .ok (.aload_n 0, 1) := by decide +kernel
theorem d17_1 : decode jdk_38_method_6_code 1 = .ok (.getfield 9, 3) := by decide +kernel
theorem d17_4 : decode jdk_38_method_6_code 4 = .ok (.arraylength, 1) := by decide +kernel
theorem d17_5 : decode jdk_38_method_6_code 5 = .ok (.istore_n 2, 1) := by decide +kernel
theorem d17_6 : decode jdk_38_method_6_code 6 = .ok (.iload_n 2, 1) := by decide +kernel
theorem d17_7 : decode jdk_38_method_6_code 7 = .ok (.ifCond .gt 13, 3) := by decide +kernel
theorem d17_10 : decode jdk_38_method_6_code 10 = .ok (.aload_n 0, 1) := by decide +kernel
theorem d17_11 : decode jdk_38_method_6_code 11 = .ok (.getfield 9, 3) := by decide +kernel
theorem d17_14 : decode jdk_38_method_6_code 14 = .ok (.getstatic 39, 3) := by decide +kernel
theorem d17_17 : decode jdk_38_method_6_code 17 = .ok (.if_acmp .eq 28, 3) := by decide +kernel
theorem d17_45 : decode jdk_38_method_6_code 45 = .ok (.aload_n 0, 1) := by decide +kernel
theorem d17_46 : decode jdk_38_method_6_code 46 = .ok (.bipush 10, 2) := by decide +kernel
theorem d17_48 : decode jdk_38_method_6_code 48 = .ok (.iload_n 1, 1) := by decide +kernel
theorem d17_49 : decode jdk_38_method_6_code 49 = .ok (.invokestatic 79, 3) := by decide +kernel
theorem pd_1 : parseMethodDescriptor "(II)I" = some ⟨[.int, .int], some .int⟩ := by decide +kernel
theorem d17_52 : decode jdk_38_method_6_code 52 = .ok (.anewarray 7, 3) := by decide +kernel
theorem d17_55 : decode jdk_38_method_6_code 55 = .ok (.dup_x1, 1) := by decide +kernel
theorem d17_56 : decode jdk_38_method_6_code 56 = .ok (.putfield 9, 3) := by decide +kernel
theorem d17_59 : decode jdk_38_method_6_code 59 = .ok (.areturn, 1) := by decide +kernel
set_option maxRecDepth 65536 in
set_option maxHeartbeats 40000000 in
theorem rm17 (l : Launch) (Z : State) (a0 : Array Value) (hw : ∀ d ∈ tables_1, d.before a0 Z = true) (ws : List Jvm.Cond) (a1 : Addr) (m1 : Int32) (wd : Addr) (kd : ClassId) (vd : List Value) (h0 : Heap) (n0 : Nat) (O0 : Old Z n0 h0) (LE : Exa Z h0 a1 "java/util/ArrayList") (LD : Fld Z h0 a1 "java/util/ArrayList" "elementData" "[Ljava/lang/Object;" (.ref wd)) (LS : Fld Z h0 a1 "java/util/ArrayList" "size" "I" (.int (0 : Int32))) (LM : Fld Z h0 a1 "java/util/AbstractList" "modCount" "I" (.int m1)) (g1 : n0 ≤ a1) (SD : Sta Z Z.heap "java/util/ArrayList" "DEFAULTCAPACITY_EMPTY_ELEMENTDATA" "[Ljava/lang/Object;" (.ref wd)) (VD : Arv Z Z.heap wd kd (.object "java/lang/Object") (0 : Int32) vd .null) :
    MetFree l (⟨"java/util/ArrayList", "grow", "(I)[Ljava/lang/Object;"⟩ : MethodName) (head1 (Jvm.Cond.code (⟨"java/util/ArrayList", "grow", "(I)[Ljava/lang/Object;"⟩ : MethodName) jdk_38_method_6_code 4 (some (.array (.object "java/lang/Object"))) :: ws) ({ frames := 1, cells := 1, slots := 10, locals := 14 } : Room)) (fun a U => a = #[(.ref a1), (.int (1 : Int32))] ∧ Z.Warmed39 U.vm ∧ U.heap = h0) (fun _ _ _ _ _ => True) (fun _ U o U' => ∃ v L, o = .returned v ∧ Q_rm17 Z a1 m1 wd kd vd h0 n0 v U'.heap L ∧ FrameEnd U o U' L ({ frames := 1, cells := 1, slots := 10, locals := 14 } : Room).cells ({ frames := 1, cells := 1, slots := 10, locals := 14 } : Room).slots) := by
  refine MetFree.of_bodySF (plainFor_of_name pn_2) hisR ?_
  intro p e s m args below meth c s₁ Bd hml0 hP hK
  obtain ⟨rfl, hZ, hh⟩ := hP
  have hx := Bd.exec
  have hby := Bd.bytes
  have hml : c.maxLocals = 4 := hml0
  have hown : s.vm.findClass "java/util/ArrayList" = some m.cls := findClass_of_methodNamed Bd.named
  have hnm := (name_of_methodNamed Bd.named Bd.method).1
  have X0 : Stand p l e ({ frames := 1, cells := 1, slots := 10, locals := 14 } : Room) s m #[(.ref a1), (.int (1 : Int32))] below meth c s₁ [] 0 0 := Stand.of_body Bd
  have e0 : s₁.heap = h0 := by rw [← hh, Bd.state]; rfl
  have N0 := Fr.nil n0
  have Z0 : n0 ≤ h0.size := old_le O0
  have pre0 : ∀ t, Steps p.tables e below (s₁.setTop (mkF m 0 #[.val (.ref a1), .val (.int (1 : Int32)), .unset, .unset] [])) t → Steps p.tables e below (s₁.setTop (entryFrame m #[(.ref a1), (.int (1 : Int32))] 4)) t := fun t k => castTop (ef_rm17 m a1 (1 : Int32)) k
  obtain ⟨T101, X101, e101, st101⟩ := getF X0 hx hZ hown (host := "") (Or.inl (hwk hw 31 rfl)) Via.refl e0 LD (g := (mkF m 1 #[.val (.ref a1), .val (.int (1 : Int32)), .unset, .unset] [(.ref a1)])) rfl rfl (hb hby d17_1)
  have c102 : Arv Z h0 wd kd (.object "java/lang/Object") (0 : Int32) vd .null := VD.ext O0.2
  obtain ⟨cl103, Ar103, -, Sz103, Nn103, -, -⟩ := id c102
  obtain ⟨T104, X104, e104, st104⟩ := getF X101 hx hZ hown (host := "") (Or.inl (hwk hw 31 rfl)) Via.refl e101 LD (g := (mkF m 11 #[.val (.ref a1), .val (.int (1 : Int32)), .val (.int (0 : Int32)), .unset] [(.ref a1)])) rfl rfl (hb hby d17_11)
  have c105 : Sta Z h0 "java/util/ArrayList" "DEFAULTCAPACITY_EMPTY_ELEMENTDATA" "[Ljava/lang/Object;" (.ref wd) := Sta.ext (O0).2 SD
  obtain ⟨T106, X106, e106, st106⟩ := getS2 X104 hx hZ hown (host := "") (Or.inl (hwk hw 30 rfl)) Via.refl e104 c105 (g := (mkF m 14 #[.val (.ref a1), .val (.int (1 : Int32)), .val (.int (0 : Int32)), .unset] [(.ref wd)])) rfl (hb hby d17_14)
  obtain ⟨_, _, ⟨T107, L107, k107, n107⟩, -, X107, ⟨Lc107, hQ107, l107, y107, z107⟩, st107⟩ := Jvm.LawKit.callS X106 hx (y := (⟨"java/lang/Math", "max", "(II)I"⟩ : MethodName)) hown (mvT hZ (hwk hw 176 rfl)) (mvT hZ (hwk hw 177 rfl)) (mvT hZ (hwk hw 178 rfl)) (mvT hZ (hwk hw 179 rfl)) (by decide) (backOf (W := 1) (rm18 l Z a0 hw []  h0 n0 O0 ) hZ (hwk hw 179 rfl) (hwk hw 178 rfl) (by decide) (by decide)) (g := (mkF m 49 #[.val (.ref a1), .val (.int (1 : Int32)), .val (.int (0 : Int32)), .unset] [(.int (1 : Int32)), (.int (10 : Int32)), (.ref a1)])) rfl (by rw [hml]; rfl) (argsL := [(.int (10 : Int32)), (.int (1 : Int32))]) (rest := [(.ref a1)]) (lenOf pd_1 rfl) rfl (by show 2 * 0 + _ ≤ _; exact Nat.le_of_eq rfl) (hb hby d17_49) (fun _ _ => ⟨rfl, e106, (by decide : 0 + 0 ≤ _), (by decide : 0 + 0 ≤ _)⟩)
  dsimp only [Pt.U, Pt.locs, Pt.cells, Pt.slots] at X107 l107 y107 z107 st107 hQ107
  subst l107 y107 z107
  unfold Q_rm18 at hQ107
  obtain ⟨rfl, N107q, e107⟩ := hQ107
  have N107 := Fr.app N0 N107q
  obtain ⟨T108, h108, k108, X108, e108, E108, A108, Ov108, st108⟩ := newR X107 hx hZ hown (hwk hw 180 rfl) (hwk hw 87 rfl) e107 (g := (mkF m 52 #[.val (.ref a1), .val (.int (1 : Int32)), .val (.int (0 : Int32)), .unset] [(.int (10 : Int32)), (.ref a1)])) rfl (hb hby d17_52) rfl (by decide) (cap := 10) (by decide) (by decide) (by decide) (by decide)
  obtain ⟨b108, g108⟩ : ∃ z, z = h0.size := ⟨_, rfl⟩
  rw [← g108] at A108 st108
  have g_b108 : n0 ≤ b108 := Nat.le_trans (old_le O0) (Nat.le_of_eq g108.symm)
  have V108 : Arv Z h108 b108 k108 (.object "java/lang/Object") (10 : Int32) [.null, .null, .null, .null, .null, .null, .null, .null, .null, .null] .null := (Arv.new A108 (by decide)).pad (pad_rep [] .null 10)
  have c109 : Exa Z h108 a1 "java/util/ArrayList" := (Exa.ext E108 LE)
  have c110 : Fld Z h108 a1 "java/util/ArrayList" "elementData" "[Ljava/lang/Object;" (.ref wd) := (Fld.ext E108 LD)
  obtain ⟨T111, h111, X111, e111, W111, st111⟩ := putF X108 hx hZ hown (host := "") (Or.inl (hwk hw 31 rfl)) Via.refl e108 c110 c109 (Or.inl (hwk hw 32 rfl)) (hwk hw 10 rfl) (ty := (.array (.object "java/lang/Object"))) (by decide) rfl rfl (g := (mkF m 56 #[.val (.ref a1), .val (.int (1 : Int32)), .val (.int (0 : Int32)), .unset] [(.ref b108), (.ref a1), (.ref b108)])) rfl rfl (hb hby d17_56)
  have F111 : Fld Z h111 a1 "java/util/ArrayList" "elementData" "[Ljava/lang/Object;" (.ref b108) := Fld.same W111 c110
  have N111 := Fr.snoc X111 N107 g1
  have K112 : Keep h0 h108 [a1] := Keep.ext (Keep.refl h0 [a1]) E108
  have K113 : Keep h0 h111 [a1] := Keep.wr K112 W111 (Or.inl (List.mem_of_getElem? (i := 0) rfl))
  have c114 : Exa Z h111 a1 "java/util/ArrayList" := (Exa.wr W111 c109)
  have c115 : Fld Z h111 a1 "java/util/ArrayList" "size" "I" (.int (0 : Int32)) := (Fld.other W111 (Fld.ext E108 LS) (Or.inr (slot_ne (Or.inl (hwk hw 160 rfl)) (Or.inl (hwk hw 32 rfl)) (by decide) (t := .int) (t' := (.array (.object "java/lang/Object"))) (by decide) (by decide))))
  have c116 : Fld Z h111 a1 "java/util/AbstractList" "modCount" "I" (.int m1) := (Fld.other W111 (Fld.ext E108 LM) (Or.inr (slot_ne (Or.inl (hwk hw 29 rfl)) (Or.inl (hwk hw 32 rfl)) (by decide) (t := .int) (t' := (.array (.object "java/lang/Object"))) (by decide) (by decide))))
  have c117 : Arv Z h111 b108 k108 (.object "java/lang/Object") (10 : Int32) [.null, .null, .null, .null, .null, .null, .null, .null, .null, .null] .null := (Arv.other V108 W111 (Ne.symm (Exa.neArv c109 V108 (hwk hw 10 rfl))))
  obtain ⟨fs, hr, hrun, hended, hW, hsame⟩ := X111.leave (v := some (.ref b108)) (fun h => by rw [Bd.returns] at h; cases h)
  refine ⟨_, _, pre0 _ ?_, hrun, hended, _, _, rfl, ?_, ⟨_, rfl⟩, hW, hsame.mono (by decide) (by decide)⟩
  · show Steps p.tables e below (s₁.setTop (mkF m 0 #[.val (.ref a1), .val (.int (1 : Int32)), .unset, .unset] [])) _
    refine XS.aloadN X0.here hx rfl (hb hby d17_0) rfl rfl ?_
    show Steps p.tables e below (s₁.setTop (mkF m 1 #[.val (.ref a1), .val (.int (1 : Int32)), .unset, .unset] [(.ref a1)])) _
    refine st101 _ ?_
    show Steps p.tables e below (T101.setTop (mkF m 4 #[.val (.ref a1), .val (.int (1 : Int32)), .unset, .unset] [(.ref wd)])) _
    refine X101.arraylength hx (by rw [e101]; exact Ar103.1) (State.isArrayOf_alike hZ.alike Ar103.2.1) (g := (mkF m 4 #[.val (.ref a1), .val (.int (1 : Int32)), .unset, .unset] [(.ref wd)])) rfl rfl (hb hby d17_4) _ ?_
    rw [len_of Sz103 Nn103]
    show Steps p.tables e below (T101.setTop (mkF m 5 #[.val (.ref a1), .val (.int (1 : Int32)), .unset, .unset] [(.int (0 : Int32))])) _
    refine XS.istoreN X101.here hx rfl (hb hby d17_5) rfl (l' := #[.val (.ref a1), .val (.int (1 : Int32)), .val (.int (0 : Int32)), .unset]) rfl ?_
    show Steps p.tables e below (T101.setTop (mkF m 6 #[.val (.ref a1), .val (.int (1 : Int32)), .val (.int (0 : Int32)), .unset] [])) _
    refine XS.iloadN X101.here hx rfl (hb hby d17_6) rfl ?_
    refine XS.ifNo X101.here hx rfl (hb hby d17_7) rfl ((if0 _ _).trans (flt (by decide : ¬ ((0 : Int32) < (0 : Int32)))).2.2.1) ?_
    show Steps p.tables e below (T101.setTop (mkF m 10 #[.val (.ref a1), .val (.int (1 : Int32)), .val (.int (0 : Int32)), .unset] [])) _
    refine XS.aloadN X101.here hx rfl (hb hby d17_10) rfl rfl ?_
    show Steps p.tables e below (T101.setTop (mkF m 11 #[.val (.ref a1), .val (.int (1 : Int32)), .val (.int (0 : Int32)), .unset] [(.ref a1)])) _
    refine st104 _ ?_
    show Steps p.tables e below (T104.setTop (mkF m 14 #[.val (.ref a1), .val (.int (1 : Int32)), .val (.int (0 : Int32)), .unset] [(.ref wd)])) _
    refine st106 _ ?_
    show Steps p.tables e below (T106.setTop (mkF m 17 #[.val (.ref a1), .val (.int (1 : Int32)), .val (.int (0 : Int32)), .unset] [(.ref wd), (.ref wd)])) _
    refine Jvm.RoadKit.acmp (g := (mkF m 17 #[.val (.ref a1), .val (.int (1 : Int32)), .val (.int (0 : Int32)), .unset] [(.ref wd), (.ref wd)])) X106 hx rfl rfl rfl (pc0 := 17) (pc' := 45) (same := true) rfl (hb hby d17_17) rfl (decide_eq_true rfl) (by decide) (by decide) ?_
    show Steps p.tables e below (T106.setTop (mkF m 45 #[.val (.ref a1), .val (.int (1 : Int32)), .val (.int (0 : Int32)), .unset] [])) _
    refine XS.aloadN X106.here hx rfl (hb hby d17_45) rfl rfl ?_
    refine XS.bipush X106.here hx rfl (hb hby d17_46) ?_
    refine XS.iloadN X106.here hx rfl (hb hby d17_48) rfl ?_
    show Steps p.tables e below (T106.setTop (mkF m 49 #[.val (.ref a1), .val (.int (1 : Int32)), .val (.int (0 : Int32)), .unset] [(.int (1 : Int32)), (.int (10 : Int32)), (.ref a1)])) _
    refine st107 _ ?_
    show Steps p.tables e below (T107.setTop (mkF m 52 #[.val (.ref a1), .val (.int (1 : Int32)), .val (.int (0 : Int32)), .unset] [(.int (10 : Int32)), (.ref a1)])) _
    refine st108 _ ?_
    show Steps p.tables e below (T108.setTop (mkF m 55 #[.val (.ref a1), .val (.int (1 : Int32)), .val (.int (0 : Int32)), .unset] [(.ref b108), (.ref a1)])) _
    refine XS.dupX1 X108.here hx rfl (hb hby d17_55) rfl rfl rfl ?_
    show Steps p.tables e below (T108.setTop (mkF m 56 #[.val (.ref a1), .val (.int (1 : Int32)), .val (.int (0 : Int32)), .unset] [(.ref b108), (.ref a1), (.ref b108)])) _
    refine st111 _ ?_
    show Steps p.tables e below (T111.setTop (mkF m 59 #[.val (.ref a1), .val (.int (1 : Int32)), .val (.int (0 : Int32)), .unset] [(.ref b108)])) _
    exact Jvm.RoadKit.retOut X111 hx Bd.returns rfl (Or.inr (Or.inr (Or.inr (Or.inr ⟨rfl, rfl, rfl⟩)))) (hb hby d17_59) hr
  · show Q_rm17 Z a1 m1 wd kd vd h0 n0 _ T111.heap _
    rw [e111]
    unfold Q_rm17
    exact ⟨b108, k108, rfl, N111, K113, (Nat.le_trans (Nat.le_refl _) (Nat.le_of_eq g108.symm)), c114, F111, c115, c116, c117, Ov108⟩
theorem ef_rm16 (m : MethodId) (x0 : Addr) : entryFrame m #[(.ref x0)] 1 = mkF m 0 #[.val (.ref x0)] [] := by first | (simp [entryFrame, mkF, argsToLocals, Value.category]; done) | rfl
def Q_rm16 (Z : State) (a1 : Addr) (m1 : Int32) (wd : Addr) (kd : ClassId) (vd : List Value) (h0 : Heap) (n0 : Nat) (v : Option Value) (h : Heap) (L : List Loc) : Prop := ∃ t : Addr, ∃ k : ClassId, (v = some (.ref t)) ∧ (Fr n0 L) ∧ (Keep h0 h [a1]) ∧ (h0.size ≤ t) ∧ (Exa Z h a1 "java/util/ArrayList") ∧ (Fld Z h a1 "java/util/ArrayList" "elementData" "[Ljava/lang/Object;" (.ref t)) ∧ (Fld Z h a1 "java/util/ArrayList" "size" "I" (.int (0 : Int32))) ∧ (Fld Z h a1 "java/util/AbstractList" "modCount" "I" (.int m1)) ∧ (Arv Z h t k (.object "java/lang/Object") (10 : Int32) [.null, .null, .null, .null, .null, .null, .null, .null, .null, .null] .null) ∧ (Ovr Z k "java/lang/Object")
theorem d16_0 : decode jdk_38_method_7_code 0 = .ok (.aload_n 0, 1) := by decide +kernel
theorem d16_1 : decode jdk_38_method_7_code 1 = .ok (.aload_n 0, 1) := by decide +kernel
theorem d16_2 : decode jdk_38_method_7_code 2 = .ok (.getfield 48, 3) := by decide +kernel
theorem d16_5 : decode jdk_38_method_7_code 5 = .ok (.iconst 1, 1) := by decide +kernel
theorem d16_6 : decode jdk_38_method_7_code 6 = .ok (.iadd, 1) := by decide +kernel
theorem d16_7 : decode jdk_38_method_7_code 7 = .ok (.invokevirtual 69, 3) := by decide +kernel
theorem pd_2 : parseMethodDescriptor "(I)[Ljava/lang/Object;" = some ⟨[.int], some (.array (.object "java/lang/Object"))⟩ := by decide +kernel
theorem d16_10 : decode jdk_38_method_7_code 10 = .ok (.areturn, 1) := by decide +kernel
set_option maxRecDepth 65536 in
set_option maxHeartbeats 40000000 in
theorem rm16 (l : Launch) (Z : State) (a0 : Array Value) (hw : ∀ d ∈ tables_1, d.before a0 Z = true) (ws : List Jvm.Cond) (a1 : Addr) (m1 : Int32) (wd : Addr) (kd : ClassId) (vd : List Value) (h0 : Heap) (n0 : Nat) (O0 : Old Z n0 h0) (LE : Exa Z h0 a1 "java/util/ArrayList") (LD : Fld Z h0 a1 "java/util/ArrayList" "elementData" "[Ljava/lang/Object;" (.ref wd)) (LS : Fld Z h0 a1 "java/util/ArrayList" "size" "I" (.int (0 : Int32))) (LM : Fld Z h0 a1 "java/util/AbstractList" "modCount" "I" (.int m1)) (g1 : n0 ≤ a1) (SD : Sta Z Z.heap "java/util/ArrayList" "DEFAULTCAPACITY_EMPTY_ELEMENTDATA" "[Ljava/lang/Object;" (.ref wd)) (VD : Arv Z Z.heap wd kd (.object "java/lang/Object") (0 : Int32) vd .null) :
    MetFree l (⟨"java/util/ArrayList", "grow", "()[Ljava/lang/Object;"⟩ : MethodName) (head1 (Jvm.Cond.code (⟨"java/util/ArrayList", "grow", "()[Ljava/lang/Object;"⟩ : MethodName) jdk_38_method_7_code 1 (some (.array (.object "java/lang/Object"))) :: ws) ({ frames := 2, cells := 1, slots := 10, locals := 29 } : Room)) (fun a U => a = #[(.ref a1)] ∧ Z.Warmed39 U.vm ∧ U.heap = h0) (fun _ _ _ _ _ => True) (fun _ U o U' => ∃ v L, o = .returned v ∧ Q_rm16 Z a1 m1 wd kd vd h0 n0 v U'.heap L ∧ FrameEnd U o U' L ({ frames := 2, cells := 1, slots := 10, locals := 29 } : Room).cells ({ frames := 2, cells := 1, slots := 10, locals := 29 } : Room).slots) := by
  refine MetFree.of_bodySF (plainFor_of_name pn_2) hisR ?_
  intro p e s m args below meth c s₁ Bd hml0 hP hK
  obtain ⟨rfl, hZ, hh⟩ := hP
  have hx := Bd.exec
  have hby := Bd.bytes
  have hml : c.maxLocals = 1 := hml0
  have hown : s.vm.findClass "java/util/ArrayList" = some m.cls := findClass_of_methodNamed Bd.named
  have hnm := (name_of_methodNamed Bd.named Bd.method).1
  have X0 : Stand p l e ({ frames := 2, cells := 1, slots := 10, locals := 29 } : Room) s m #[(.ref a1)] below meth c s₁ [] 0 0 := Stand.of_body Bd
  have e0 : s₁.heap = h0 := by rw [← hh, Bd.state]; rfl
  have N0 := Fr.nil n0
  have Z0 : n0 ≤ h0.size := old_le O0
  have pre0 : ∀ t, Steps p.tables e below (s₁.setTop (mkF m 0 #[.val (.ref a1)] [])) t → Steps p.tables e below (s₁.setTop (entryFrame m #[(.ref a1)] 1)) t := fun t k => castTop (ef_rm16 m a1) k
  obtain ⟨T101, X101, e101, st101⟩ := getF X0 hx hZ hown (host := "") (Or.inl (hwk hw 159 rfl)) Via.refl e0 LS (g := (mkF m 2 #[.val (.ref a1)] [(.ref a1), (.ref a1)])) rfl rfl (hb hby d16_2)
  obtain ⟨cq102, q102, q102'⟩ := (LE).cell
  obtain ⟨_, _, ⟨T102, L102, k102, n102⟩, -, X102, ⟨Lc102, hQ102, l102, y102, z102⟩, st102⟩ := X101.privateBack hx (y := (⟨"java/util/ArrayList", "grow", "(I)[Ljava/lang/Object;"⟩ : MethodName)) hown (mvT hZ (hwk hw 171 rfl)) (mvT hZ (hwk hw 172 rfl)) (mvT hZ (hwk hw 174 rfl)) (Cond.privateMethod_at (mvP hZ (hwk hw 173 rfl) (args := #[]))) (mvT hZ (hwk hw 175 rfl)) (by decide) (backOf (W := 0) (rm17 l Z a0 hw [] a1 m1 wd kd vd h0 n0 O0 LE LD LS LM g1 SD VD) hZ (hwk hw 175 rfl) (hwk hw 11 rfl) (by decide) (by decide)) (g := (mkF m 7 #[.val (.ref a1)] [(.int (1 : Int32)), (.ref a1)])) rfl (by rw [hml]; rfl) (Steps.refl _) (a := a1) (by rw [e101]; exact q102) q102' (argsL := [(.int (1 : Int32))]) (rest := []) (lenOf pd_2 rfl) rfl (by show 2 * 0 + _ ≤ _; exact Nat.le_of_eq rfl) (hb hby d16_7) (fun _ _ => ⟨rfl, e101, (by decide : 0 + 1 ≤ _), (by decide : 0 + 10 ≤ _)⟩)
  dsimp only [Pt.U, Pt.locs, Pt.cells, Pt.slots] at X102 l102 y102 z102 st102 hQ102
  subst l102 y102 z102
  unfold Q_rm17 at hQ102
  obtain ⟨t_102, k_102, rfl, N102q, K102, ge_t_102, f102_0, f102_1, f102_2, f102_3, f102_4, f102_5⟩ := hQ102
  have N102 := Fr.app N0 N102q
  have g_t_102 : n0 ≤ t_102 := Nat.le_trans (old_le O0) ge_t_102
  have K103 : Keep h0 T102.heap [a1] := Keep.trans (Keep.refl h0 [a1]) K102 (allS (Or.inl (List.mem_of_getElem? (i := 0) rfl)) all0)
  obtain ⟨fs, hr, hrun, hended, hW, hsame⟩ := X102.leave (v := some (.ref t_102)) (fun h => by rw [Bd.returns] at h; cases h)
  refine ⟨_, _, pre0 _ ?_, hrun, hended, _, _, rfl, ?_, ⟨_, rfl⟩, hW, hsame.mono (by decide) (by decide)⟩
  · show Steps p.tables e below (s₁.setTop (mkF m 0 #[.val (.ref a1)] [])) _
    refine XS.aloadN X0.here hx rfl (hb hby d16_0) rfl rfl ?_
    refine XS.aloadN X0.here hx rfl (hb hby d16_1) rfl rfl ?_
    show Steps p.tables e below (s₁.setTop (mkF m 2 #[.val (.ref a1)] [(.ref a1), (.ref a1)])) _
    refine st101 _ ?_
    show Steps p.tables e below (T101.setTop (mkF m 5 #[.val (.ref a1)] [(.int (0 : Int32)), (.ref a1)])) _
    refine XS.iconst X101.here hx rfl (hb hby d16_5) ?_
    refine XS.iadd X101.here hx rfl (hb hby d16_6) rfl ?_
    show Steps p.tables e below (T101.setTop (mkF m 7 #[.val (.ref a1)] [(.int ((0 : Int32) + (1 : Int32))), (.ref a1)])) _
    rw [show ((0 : Int32) + (1 : Int32)) = (1 : Int32) from by decide]
    show Steps p.tables e below (T101.setTop (mkF m 7 #[.val (.ref a1)] [(.int (1 : Int32)), (.ref a1)])) _
    refine st102.trans ?_
    show Steps p.tables e below (T102.setTop (mkF m 10 #[.val (.ref a1)] [(.ref t_102)])) _
    exact Jvm.RoadKit.retOut X102 hx Bd.returns rfl (Or.inr (Or.inr (Or.inr (Or.inr ⟨rfl, rfl, rfl⟩)))) (hb hby d16_10) hr
  · show Q_rm16 Z a1 m1 wd kd vd h0 n0 _ T102.heap _
    unfold Q_rm16
    exact ⟨t_102, k_102, rfl, N102, K103, (Nat.le_trans (Nat.le_refl _) ge_t_102), f102_0, f102_1, f102_2, f102_3, f102_4, f102_5⟩
theorem ef_rm15_0D (m : MethodId) (x0 : Addr) (x1 : Addr) (x2 : Addr) (x3 : Int32) : entryFrame m #[(.ref x0), (.ref x1), (.ref x2), (.int x3)] 4 = mkF m 0 #[.val (.ref x0), .val (.ref x1), .val (.ref x2), .val (.int x3)] [] := by first | (simp [entryFrame, mkF, argsToLocals, Value.category]; done) | rfl
def Q_rm15_0D (Z : State) (a1 : Addr) (e1 : Addr) (m1 : Int32) (wd : Addr) (kd : ClassId) (vd : List Value) (h0 : Heap) (n0 : Nat) (v : Option Value) (h : Heap) (L : List Loc) : Prop := ∃ t : Addr, ∃ k : ClassId, (v = none) ∧ (Fr n0 L) ∧ (Keep h0 h [a1]) ∧ (h0.size ≤ t) ∧ (Exa Z h a1 "java/util/ArrayList") ∧ (Fld Z h a1 "java/util/ArrayList" "elementData" "[Ljava/lang/Object;" (.ref t)) ∧ (Fld Z h a1 "java/util/ArrayList" "size" "I" (.int (1 : Int32))) ∧ (Fld Z h a1 "java/util/AbstractList" "modCount" "I" (.int m1)) ∧ (Arv Z h t k (.object "java/lang/Object") (10 : Int32) [(.ref e1), .null, .null, .null, .null, .null, .null, .null, .null, .null] .null) ∧ (Ovr Z k "java/lang/Object") ∧ (t ≠ a1)
theorem d15_0 : decode jdk_38_method_24_code 0 = .ok (.iload_n 3, 1) := by decide +kernel
theorem d15_1 : decode jdk_38_method_24_code 1 = .ok (.aload_n 2, 1) := by decide +kernel
theorem d15_2 : decode jdk_38_method_24_code 2 = .ok (.arraylength, 1) := by decide +kernel
theorem d15_3 : decode jdk_38_method_24_code 3 = .ok (.if_icmp .ne 8, 3) := by decide +kernel
theorem d15_6 : decode jdk_38_method_24_code 6 = .ok (.aload_n 0, 1) := by decide +kernel
theorem d15_7 : decode jdk_38_method_24_code 7 = .ok (.invokevirtual 129, 3) := by decide +kernel
theorem pd_3 : parseMethodDescriptor "()[Ljava/lang/Object;" = some ⟨[], some (.array (.object "java/lang/Object"))⟩ := by decide +kernel
theorem d15_10 : decode jdk_38_method_24_code 10 = .ok (.astore_n 2, 1) := by decide +kernel
theorem d15_11 : decode jdk_38_method_24_code 11 = .ok (.aload_n 2, 1) := by decide +kernel
theorem d15_12 : decode jdk_38_method_24_code 12 = .ok (.iload_n 3, 1) := by decide +kernel
theorem d15_13 : decode jdk_38_method_24_code 13 = .ok (.aload_n 1, 1) := by decide +kernel
theorem d15_14 : decode jdk_38_method_24_code 14 = .ok (.aastore, 1) := by decide +kernel
theorem d15_15 : decode jdk_38_method_24_code 15 = .ok (.aload_n 0, 1) := by decide +kernel
theorem d15_16 : decode jdk_38_method_24_code 16 = .ok (.iload_n 3, 1) := by decide +kernel
theorem d15_17 : decode jdk_38_method_24_code 17 = .ok (.iconst 1, 1) := by decide +kernel
theorem d15_18 : decode jdk_38_method_24_code 18 = .ok (.iadd, 1) := by decide +kernel
theorem d15_19 : decode jdk_38_method_24_code 19 = .ok (.putfield 48, 3) := by decide +kernel
theorem d15_22 : decode jdk_38_method_24_code 22 = .ok (.return_, 1) := by decide +kernel
set_option maxRecDepth 65536 in
set_option maxHeartbeats 40000000 in
theorem rm15_0D (l : Launch) (Z : State) (a0 : Array Value) (hw : ∀ d ∈ tables_1, d.before a0 Z = true) (ws : List Jvm.Cond) (a1 : Addr) (e1 : Addr) (m1 : Int32) (wd : Addr) (kd : ClassId) (vd : List Value) (h0 : Heap) (n0 : Nat) (O0 : Old Z n0 h0) (LE : Exa Z h0 a1 "java/util/ArrayList") (LD : Fld Z h0 a1 "java/util/ArrayList" "elementData" "[Ljava/lang/Object;" (.ref wd)) (LS : Fld Z h0 a1 "java/util/ArrayList" "size" "I" (.int (0 : Int32))) (LM : Fld Z h0 a1 "java/util/AbstractList" "modCount" "I" (.int m1)) (g1 : n0 ≤ a1) (EE : Exa Z h0 e1 "com/example/fixlore/fixlore/lang/GraphBuilder$Draft") (SD : Sta Z Z.heap "java/util/ArrayList" "DEFAULTCAPACITY_EMPTY_ELEMENTDATA" "[Ljava/lang/Object;" (.ref wd)) (VD : Arv Z Z.heap wd kd (.object "java/lang/Object") (0 : Int32) vd .null) :
    MetFree l (⟨"java/util/ArrayList", "add", "(Ljava/lang/Object;[Ljava/lang/Object;I)V"⟩ : MethodName) (head1 (Jvm.Cond.code (⟨"java/util/ArrayList", "add", "(Ljava/lang/Object;[Ljava/lang/Object;I)V"⟩ : MethodName) jdk_38_method_24_code 4 none :: ws) ({ frames := 3, cells := 1, slots := 10, locals := 41 } : Room)) (fun a U => a = #[(.ref a1), (.ref e1), (.ref wd), (.int (0 : Int32))] ∧ Z.Warmed39 U.vm ∧ U.heap = h0) (fun _ _ _ _ _ => True) (fun _ U o U' => ∃ v L, o = .returned v ∧ Q_rm15_0D Z a1 e1 m1 wd kd vd h0 n0 v U'.heap L ∧ FrameEnd U o U' L ({ frames := 3, cells := 1, slots := 10, locals := 41 } : Room).cells ({ frames := 3, cells := 1, slots := 10, locals := 41 } : Room).slots) := by
  refine MetFree.of_bodySF (plainFor_of_name pn_2) hisR ?_
  intro p e s m args below meth c s₁ Bd hml0 hP hK
  obtain ⟨rfl, hZ, hh⟩ := hP
  have hx := Bd.exec
  have hby := Bd.bytes
  have hml : c.maxLocals = 4 := hml0
  have hown : s.vm.findClass "java/util/ArrayList" = some m.cls := findClass_of_methodNamed Bd.named
  have hnm := (name_of_methodNamed Bd.named Bd.method).1
  have X0 : Stand p l e ({ frames := 3, cells := 1, slots := 10, locals := 41 } : Room) s m #[(.ref a1), (.ref e1), (.ref wd), (.int (0 : Int32))] below meth c s₁ [] 0 0 := Stand.of_body Bd
  have e0 : s₁.heap = h0 := by rw [← hh, Bd.state]; rfl
  have N0 := Fr.nil n0
  have Z0 : n0 ≤ h0.size := old_le O0
  have pre0 : ∀ t, Steps p.tables e below (s₁.setTop (mkF m 0 #[.val (.ref a1), .val (.ref e1), .val (.ref wd), .val (.int (0 : Int32))] [])) t → Steps p.tables e below (s₁.setTop (entryFrame m #[(.ref a1), (.ref e1), (.ref wd), (.int (0 : Int32))] 4)) t := fun t k => castTop (ef_rm15_0D m a1 e1 wd (0 : Int32)) k
  have c101 : Arv Z h0 wd kd (.object "java/lang/Object") (0 : Int32) vd .null := VD.ext O0.2
  obtain ⟨cl102, Ar102, -, Sz102, Nn102, -, -⟩ := id c101
  obtain ⟨cq103, q103, q103'⟩ := (LE).cell
  obtain ⟨_, _, ⟨T103, L103, k103, n103⟩, -, X103, ⟨Lc103, hQ103, l103, y103, z103⟩, st103⟩ := X0.privateBack hx (y := (⟨"java/util/ArrayList", "grow", "()[Ljava/lang/Object;"⟩ : MethodName)) hown (mvT hZ (hwk hw 166 rfl)) (mvT hZ (hwk hw 167 rfl)) (mvT hZ (hwk hw 169 rfl)) (Cond.privateMethod_at (mvP hZ (hwk hw 168 rfl) (args := #[]))) (mvT hZ (hwk hw 170 rfl)) (by decide) (backOf (W := 0) (rm16 l Z a0 hw [] a1 m1 wd kd vd h0 n0 O0 LE LD LS LM g1 SD VD) hZ (hwk hw 170 rfl) (hwk hw 11 rfl) (by decide) (by decide)) (g := (mkF m 7 #[.val (.ref a1), .val (.ref e1), .val (.ref wd), .val (.int (0 : Int32))] [(.ref a1)])) rfl (by rw [hml]; rfl) (Steps.refl _) (a := a1) (by rw [e0]; exact q103) q103' (argsL := []) (rest := []) (lenOf pd_3 rfl) rfl (by show 2 * 0 + _ ≤ _; exact Nat.le_of_eq rfl) (hb hby d15_7) (fun _ _ => ⟨rfl, e0, (by decide : 0 + 1 ≤ _), (by decide : 0 + 10 ≤ _)⟩)
  dsimp only [Pt.U, Pt.locs, Pt.cells, Pt.slots] at X103 l103 y103 z103 st103 hQ103
  subst l103 y103 z103
  unfold Q_rm16 at hQ103
  obtain ⟨t_103, k_103, rfl, N103q, K103, ge_t_103, f103_0, f103_1, f103_2, f103_3, f103_4, f103_5⟩ := hQ103
  have N103 := Fr.app N0 N103q
  have g_t_103 : n0 ≤ t_103 := Nat.le_trans (old_le O0) ge_t_103
  obtain ⟨clq104, Arq104, kqq104, Szq104, Nnq104, Hsq104, Gsq104⟩ := id f103_4
  have hinq104 : ¬ ((0 : Int32) < 0 ∨ clq104.slots.size ≤ ((0 : Int32)).toNatClampNeg) := inb_of Szq104 ⟨by decide, by decide⟩
  have c105 : Exa Z T103.heap e1 "com/example/fixlore/fixlore/lang/GraphBuilder$Draft" := (Exa.keep EE K103)
  obtain ⟨T106, h106, X106, e106, W106, st106⟩ := stR X103 hx hZ (rfl : T103.heap = T103.heap) Arq104 (j := (0 : Int32)) hinq104 rfl (Sto.ofV Arq104 kqq104 f103_5 (Ins.of_exa c105 (hwk hw 181 rfl))) (g := (mkF m 14 #[.val (.ref a1), .val (.ref e1), .val (.ref t_103), .val (.int (0 : Int32))] [(.ref e1), (.int (0 : Int32)), (.ref t_103)])) rfl rfl (hb hby d15_14)
  have V106 : Arv Z h106 t_103 k_103 (.object "java/lang/Object") (10 : Int32) [(.ref e1), .null, .null, .null, .null, .null, .null, .null, .null, .null] .null := Arv.set Arq104 kqq104 Szq104 Nnq104 Hsq104 Gsq104 rfl W106 0 rfl (Nat.le_of_ble_eq_true rfl)
  have N106 := Fr.snoc X106 N103 g_t_103
  have c107 : Exa Z h106 a1 "java/util/ArrayList" := (Exa.wr W106 f103_0)
  have c108 : Fld Z h106 a1 "java/util/ArrayList" "size" "I" (.int (0 : Int32)) := (Fld.other W106 f103_2 (Or.inl (Exa.neArv c107 V106 (hwk hw 10 rfl))))
  obtain ⟨T109, h109, X109, e109, W109, st109⟩ := putF X106 hx hZ hown (host := "") (Or.inl (hwk hw 159 rfl)) Via.refl e106 c108 c107 (Or.inl (hwk hw 160 rfl)) (hwk hw 10 rfl) (ty := .int) (by decide) rfl rfl (g := (mkF m 19 #[.val (.ref a1), .val (.ref e1), .val (.ref t_103), .val (.int (0 : Int32))] [(.int (1 : Int32)), (.ref a1)])) rfl rfl (hb hby d15_19)
  have F109 : Fld Z h109 a1 "java/util/ArrayList" "size" "I" (.int (1 : Int32)) := Fld.same W109 c108
  have N109 := Fr.snoc X109 N106 g1
  have K110 : Keep h0 T103.heap [a1] := Keep.trans (Keep.refl h0 [a1]) K103 (allS (Or.inl (List.mem_of_getElem? (i := 0) rfl)) all0)
  have K111 : Keep h0 h106 [a1] := Keep.wr K110 W106 (Or.inr (Nat.le_trans (Nat.le_refl _) ge_t_103))
  have K112 : Keep h0 h109 [a1] := Keep.wr K111 W109 (Or.inl (List.mem_of_getElem? (i := 0) rfl))
  have c113 : Exa Z h109 a1 "java/util/ArrayList" := (Exa.wr W109 c107)
  have c114 : Fld Z h109 a1 "java/util/ArrayList" "elementData" "[Ljava/lang/Object;" (.ref t_103) := (Fld.other W109 (Fld.other W106 f103_1 (Or.inl (Exa.neArv c107 V106 (hwk hw 10 rfl)))) (Or.inr (slot_ne (Or.inl (hwk hw 32 rfl)) (Or.inl (hwk hw 160 rfl)) (by decide) (t := (.array (.object "java/lang/Object"))) (t' := .int) (by decide) (by decide))))
  have c115 : Fld Z h109 a1 "java/util/AbstractList" "modCount" "I" (.int m1) := (Fld.other W109 (Fld.other W106 f103_3 (Or.inl (Exa.neArv c107 V106 (hwk hw 10 rfl)))) (Or.inr (slot_ne (Or.inl (hwk hw 29 rfl)) (Or.inl (hwk hw 160 rfl)) (by decide) (t := .int) (t' := .int) (by decide) (by decide))))
  have c116 : Arv Z h109 t_103 k_103 (.object "java/lang/Object") (10 : Int32) [(.ref e1), .null, .null, .null, .null, .null, .null, .null, .null, .null] .null := (Arv.other V106 W109 (Ne.symm (Exa.neArv c107 V106 (hwk hw 10 rfl))))
  obtain ⟨fs, hr, hrun, hended, hW, hsame⟩ := X109.leave (v := none) (fun _ => rfl)
  refine ⟨_, _, pre0 _ ?_, hrun, hended, _, _, rfl, ?_, ⟨_, rfl⟩, hW, hsame.mono (by decide) (by decide)⟩
  · show Steps p.tables e below (s₁.setTop (mkF m 0 #[.val (.ref a1), .val (.ref e1), .val (.ref wd), .val (.int (0 : Int32))] [])) _
    refine XS.iloadN X0.here hx rfl (hb hby d15_0) rfl ?_
    refine XS.aloadN X0.here hx rfl (hb hby d15_1) rfl rfl ?_
    show Steps p.tables e below (s₁.setTop (mkF m 2 #[.val (.ref a1), .val (.ref e1), .val (.ref wd), .val (.int (0 : Int32))] [(.ref wd), (.int (0 : Int32))])) _
    refine X0.arraylength hx (by rw [e0]; exact Ar102.1) (State.isArrayOf_alike hZ.alike Ar102.2.1) (g := (mkF m 2 #[.val (.ref a1), .val (.ref e1), .val (.ref wd), .val (.int (0 : Int32))] [(.ref wd), (.int (0 : Int32))])) rfl rfl (hb hby d15_2) _ ?_
    rw [len_of Sz102 Nn102]
    show Steps p.tables e below (s₁.setTop (mkF m 3 #[.val (.ref a1), .val (.ref e1), .val (.ref wd), .val (.int (0 : Int32))] [(.int (0 : Int32)), (.int (0 : Int32))])) _
    refine XS.icmpNo X0.here hx rfl (hb hby d15_3) rfl (teq (by decide : (0 : Int32) = (0 : Int32))).2 ?_
    show Steps p.tables e below (s₁.setTop (mkF m 6 #[.val (.ref a1), .val (.ref e1), .val (.ref wd), .val (.int (0 : Int32))] [])) _
    refine XS.aloadN X0.here hx rfl (hb hby d15_6) rfl rfl ?_
    show Steps p.tables e below (s₁.setTop (mkF m 7 #[.val (.ref a1), .val (.ref e1), .val (.ref wd), .val (.int (0 : Int32))] [(.ref a1)])) _
    refine st103.trans ?_
    show Steps p.tables e below (T103.setTop (mkF m 10 #[.val (.ref a1), .val (.ref e1), .val (.ref wd), .val (.int (0 : Int32))] [(.ref t_103)])) _
    refine XS.astoreN X103.here hx rfl (hb hby d15_10) rfl rfl (l' := #[.val (.ref a1), .val (.ref e1), .val (.ref t_103), .val (.int (0 : Int32))]) rfl ?_
    show Steps p.tables e below (T103.setTop (mkF m 11 #[.val (.ref a1), .val (.ref e1), .val (.ref t_103), .val (.int (0 : Int32))] [])) _
    refine XS.aloadN X103.here hx rfl (hb hby d15_11) rfl rfl ?_
    refine XS.iloadN X103.here hx rfl (hb hby d15_12) rfl ?_
    refine XS.aloadN X103.here hx rfl (hb hby d15_13) rfl rfl ?_
    show Steps p.tables e below (T103.setTop (mkF m 14 #[.val (.ref a1), .val (.ref e1), .val (.ref t_103), .val (.int (0 : Int32))] [(.ref e1), (.int (0 : Int32)), (.ref t_103)])) _
    refine st106 _ ?_
    show Steps p.tables e below (T106.setTop (mkF m 15 #[.val (.ref a1), .val (.ref e1), .val (.ref t_103), .val (.int (0 : Int32))] [])) _
    refine XS.aloadN X106.here hx rfl (hb hby d15_15) rfl rfl ?_
    refine XS.iloadN X106.here hx rfl (hb hby d15_16) rfl ?_
    refine XS.iconst X106.here hx rfl (hb hby d15_17) ?_
    refine XS.iadd X106.here hx rfl (hb hby d15_18) rfl ?_
    show Steps p.tables e below (T106.setTop (mkF m 19 #[.val (.ref a1), .val (.ref e1), .val (.ref t_103), .val (.int (0 : Int32))] [(.int ((0 : Int32) + (1 : Int32))), (.ref a1)])) _
    rw [show ((0 : Int32) + (1 : Int32)) = (1 : Int32) from by decide]
    show Steps p.tables e below (T106.setTop (mkF m 19 #[.val (.ref a1), .val (.ref e1), .val (.ref t_103), .val (.int (0 : Int32))] [(.int (1 : Int32)), (.ref a1)])) _
    refine st109 _ ?_
    show Steps p.tables e below (T109.setTop (mkF m 22 #[.val (.ref a1), .val (.ref e1), .val (.ref t_103), .val (.int (0 : Int32))] [])) _
    exact X109.returnOut hx Bd.returns (hb hby d15_22) hr
  · show Q_rm15_0D Z a1 e1 m1 wd kd vd h0 n0 _ T109.heap _
    rw [e109]
    unfold Q_rm15_0D
    exact ⟨t_103, k_103, rfl, N109, K112, (Nat.le_trans (Nat.le_refl _) ge_t_103), c113, c114, F109, c115, c116, f103_5, (Ne.symm (Exa.neArv c107 V106 (hwk hw 10 rfl)))⟩
theorem ef_rm14_0D (m : MethodId) (x0 : Addr) (x1 : Addr) : entryFrame m #[(.ref x0), (.ref x1)] 2 = mkF m 0 #[.val (.ref x0), .val (.ref x1)] [] := by first | (simp [entryFrame, mkF, argsToLocals, Value.category]; done) | rfl
def Q_rm14_0D (Z : State) (a1 : Addr) (e1 : Addr) (m1 : Int32) (wd : Addr) (kd : ClassId) (vd : List Value) (h0 : Heap) (n0 : Nat) (v : Option Value) (h : Heap) (L : List Loc) : Prop := ∃ t : Addr, ∃ k : ClassId, (v = some (.int (1 : Int32))) ∧ (Fr n0 L) ∧ (Keep h0 h [a1]) ∧ (h0.size ≤ t) ∧ (Exa Z h a1 "java/util/ArrayList") ∧ (Fld Z h a1 "java/util/ArrayList" "elementData" "[Ljava/lang/Object;" (.ref t)) ∧ (Fld Z h a1 "java/util/ArrayList" "size" "I" (.int (1 : Int32))) ∧ (Fld Z h a1 "java/util/AbstractList" "modCount" "I" (.int (m1 + (1 : Int32)))) ∧ (Arv Z h t k (.object "java/lang/Object") (10 : Int32) [(.ref e1), .null, .null, .null, .null, .null, .null, .null, .null, .null] .null) ∧ (Ovr Z k "java/lang/Object") ∧ (t ≠ a1)
theorem d14_0 : decode jdk_38_method_25_code 0 = .ok (.aload_n 0, 1) := by decide +kernel
theorem d14_1 : decode jdk_38_method_25_code 1 = .ok (.dup, 1) := by decide +kernel
theorem d14_2 : decode jdk_38_method_25_code 2 = .ok (.getfield 63, 3) := by decide +kernel
theorem d14_5 : decode jdk_38_method_25_code 5 = .ok (.iconst 1, 1) := by decide +kernel
theorem d14_6 : decode jdk_38_method_25_code 6 = .ok (.iadd, 1) := by decide +kernel
theorem d14_7 : decode jdk_38_method_25_code 7 = .ok (.putfield 63, 3) := by decide +kernel
theorem d14_10 : decode jdk_38_method_25_code 10 = .ok (.aload_n 0, 1) := by decide +kernel
theorem d14_11 : decode jdk_38_method_25_code 11 = .ok (.aload_n 1, 1) := by decide +kernel
theorem d14_12 : decode jdk_38_method_25_code 12 = .ok (.aload_n 0, 1) := by decide +kernel
theorem d14_13 : decode jdk_38_method_25_code 13 = .ok (.getfield 9, 3) := by decide +kernel
theorem d14_16 : decode jdk_38_method_25_code 16 = .ok (.aload_n 0, 1) := by decide +kernel
theorem d14_17 : decode jdk_38_method_25_code 17 = .ok (.getfield 48, 3) := by decide +kernel
theorem d14_20 : decode jdk_38_method_25_code 20 = .ok (.invokevirtual 131, 3) := by decide +kernel
theorem pd_4 : parseMethodDescriptor "(Ljava/lang/Object;[Ljava/lang/Object;I)V" = some ⟨[(.object "java/lang/Object"), (.array (.object "java/lang/Object")), .int], none⟩ := by decide +kernel
theorem d14_23 : decode jdk_38_method_25_code 23 = .ok (.iconst 1, 1) := by decide +kernel
theorem d14_24 : decode jdk_38_method_25_code 24 = .ok (.ireturn, 1) := by decide +kernel
set_option maxRecDepth 65536 in
set_option maxHeartbeats 40000000 in
theorem rm14_0D (l : Launch) (Z : State) (a0 : Array Value) (hw : ∀ d ∈ tables_1, d.before a0 Z = true) (ws : List Jvm.Cond) (a1 : Addr) (e1 : Addr) (m1 : Int32) (wd : Addr) (kd : ClassId) (vd : List Value) (h0 : Heap) (n0 : Nat) (O0 : Old Z n0 h0) (LE : Exa Z h0 a1 "java/util/ArrayList") (LD : Fld Z h0 a1 "java/util/ArrayList" "elementData" "[Ljava/lang/Object;" (.ref wd)) (LS : Fld Z h0 a1 "java/util/ArrayList" "size" "I" (.int (0 : Int32))) (LM : Fld Z h0 a1 "java/util/AbstractList" "modCount" "I" (.int m1)) (g1 : n0 ≤ a1) (EE : Exa Z h0 e1 "com/example/fixlore/fixlore/lang/GraphBuilder$Draft") (SD : Sta Z Z.heap "java/util/ArrayList" "DEFAULTCAPACITY_EMPTY_ELEMENTDATA" "[Ljava/lang/Object;" (.ref wd)) (VD : Arv Z Z.heap wd kd (.object "java/lang/Object") (0 : Int32) vd .null) :
    MetFree l (⟨"java/util/ArrayList", "add", "(Ljava/lang/Object;)Z"⟩ : MethodName) (head1 (Jvm.Cond.code (⟨"java/util/ArrayList", "add", "(Ljava/lang/Object;)Z"⟩ : MethodName) jdk_38_method_25_code 2 (some .boolean) :: ws) ({ frames := 4, cells := 1, slots := 10, locals := 56 } : Room)) (fun a U => a = #[(.ref a1), (.ref e1)] ∧ Z.Warmed39 U.vm ∧ U.heap = h0) (fun _ _ _ _ _ => True) (fun _ U o U' => ∃ v L, o = .returned v ∧ Q_rm14_0D Z a1 e1 m1 wd kd vd h0 n0 v U'.heap L ∧ FrameEnd U o U' L ({ frames := 4, cells := 1, slots := 10, locals := 56 } : Room).cells ({ frames := 4, cells := 1, slots := 10, locals := 56 } : Room).slots) := by
  refine MetFree.of_bodySF (plainFor_of_name pn_2) hisR ?_
  intro p e s m args below meth c s₁ Bd hml0 hP hK
  obtain ⟨rfl, hZ, hh⟩ := hP
  have hx := Bd.exec
  have hby := Bd.bytes
  have hml : c.maxLocals = 2 := hml0
  have hown : s.vm.findClass "java/util/ArrayList" = some m.cls := findClass_of_methodNamed Bd.named
  have hnm := (name_of_methodNamed Bd.named Bd.method).1
  have X0 : Stand p l e ({ frames := 4, cells := 1, slots := 10, locals := 56 } : Room) s m #[(.ref a1), (.ref e1)] below meth c s₁ [] 0 0 := Stand.of_body Bd
  have e0 : s₁.heap = h0 := by rw [← hh, Bd.state]; rfl
  have N0 := Fr.nil n0
  have Z0 : n0 ≤ h0.size := old_le O0
  have pre0 : ∀ t, Steps p.tables e below (s₁.setTop (mkF m 0 #[.val (.ref a1), .val (.ref e1)] [])) t → Steps p.tables e below (s₁.setTop (entryFrame m #[(.ref a1), (.ref e1)] 2)) t := fun t k => castTop (ef_rm14_0D m a1 e1) k
  obtain ⟨T101, X101, e101, st101⟩ := getF X0 hx hZ hown (host := "") (Or.inl (hwk hw 157 rfl)) (Via.of (hwk hw 158 rfl)) e0 LM (g := (mkF m 2 #[.val (.ref a1), .val (.ref e1)] [(.ref a1), (.ref a1)])) rfl rfl (hb hby d14_2)
  obtain ⟨T102, h102, X102, e102, W102, st102⟩ := putF X101 hx hZ hown (host := "") (Or.inl (hwk hw 157 rfl)) (Via.of (hwk hw 158 rfl)) e101 LM LE (Or.inl (hwk hw 29 rfl)) (hwk hw 10 rfl) (ty := .int) (by decide) rfl rfl (g := (mkF m 7 #[.val (.ref a1), .val (.ref e1)] [(.int (m1 + (1 : Int32))), (.ref a1)])) rfl rfl (hb hby d14_7)
  have F102 : Fld Z h102 a1 "java/util/AbstractList" "modCount" "I" (.int (m1 + (1 : Int32))) := Fld.same W102 LM
  have N102 := Fr.snoc X102 N0 g1
  have c103 : Fld Z h102 a1 "java/util/ArrayList" "elementData" "[Ljava/lang/Object;" (.ref wd) := (Fld.other W102 LD (Or.inr (slot_ne (Or.inl (hwk hw 32 rfl)) (Or.inl (hwk hw 29 rfl)) (by decide) (t := (.array (.object "java/lang/Object"))) (t' := .int) (by decide) (by decide))))
  obtain ⟨T104, X104, e104, st104⟩ := getF X102 hx hZ hown (host := "") (Or.inl (hwk hw 31 rfl)) Via.refl e102 c103 (g := (mkF m 13 #[.val (.ref a1), .val (.ref e1)] [(.ref a1), (.ref e1), (.ref a1)])) rfl rfl (hb hby d14_13)
  have c105 : Fld Z h102 a1 "java/util/ArrayList" "size" "I" (.int (0 : Int32)) := (Fld.other W102 LS (Or.inr (slot_ne (Or.inl (hwk hw 160 rfl)) (Or.inl (hwk hw 29 rfl)) (by decide) (t := .int) (t' := .int) (by decide) (by decide))))
  obtain ⟨T106, X106, e106, st106⟩ := getF X104 hx hZ hown (host := "") (Or.inl (hwk hw 159 rfl)) Via.refl e104 c105 (g := (mkF m 17 #[.val (.ref a1), .val (.ref e1)] [(.ref a1), (.ref wd), (.ref e1), (.ref a1)])) rfl rfl (hb hby d14_17)
  have c107 : Exa Z h102 a1 "java/util/ArrayList" := (Exa.wr W102 LE)
  have c108 : Exa Z h102 e1 "com/example/fixlore/fixlore/lang/GraphBuilder$Draft" := (Exa.wr W102 EE)
  have O109 : Old Z n0 h102 := Old.wr O0 W102 g1
  obtain ⟨cq110, q110, q110'⟩ := (c107).cell
  obtain ⟨_, _, ⟨T110, L110, k110, n110⟩, -, X110, ⟨Lc110, hQ110, l110, y110, z110⟩, st110⟩ := X106.privateBack hx (y := (⟨"java/util/ArrayList", "add", "(Ljava/lang/Object;[Ljava/lang/Object;I)V"⟩ : MethodName)) hown (mvT hZ (hwk hw 161 rfl)) (mvT hZ (hwk hw 162 rfl)) (mvT hZ (hwk hw 164 rfl)) (Cond.privateMethod_at (mvP hZ (hwk hw 163 rfl) (args := #[]))) (mvT hZ (hwk hw 165 rfl)) (by decide) (backOf (W := 0) (rm15_0D l Z a0 hw [] a1 e1 (m1 + (1 : Int32)) wd kd vd h102 n0 O109 c107 c103 c105 F102 g1 c108 SD VD) hZ (hwk hw 165 rfl) (hwk hw 11 rfl) (by decide) (by decide)) (g := (mkF m 20 #[.val (.ref a1), .val (.ref e1)] [(.int (0 : Int32)), (.ref wd), (.ref e1), (.ref a1)])) rfl (by rw [hml]; rfl) (Steps.refl _) (a := a1) (by rw [e106]; exact q110) q110' (argsL := [(.ref e1), (.ref wd), (.int (0 : Int32))]) (rest := []) (lenOf pd_4 rfl) rfl (by show 2 * 0 + _ ≤ _; exact Nat.le_of_eq rfl) (hb hby d14_20) (fun _ _ => ⟨rfl, e106, (by decide : 0 + 1 ≤ _), (by decide : 0 + 10 ≤ _)⟩)
  dsimp only [Pt.U, Pt.locs, Pt.cells, Pt.slots] at X110 l110 y110 z110 st110 hQ110
  subst l110 y110 z110
  unfold Q_rm15_0D at hQ110
  obtain ⟨t_110, k_110, rfl, N110q, K110, ge_t_110, f110_0, f110_1, f110_2, f110_3, f110_4, f110_5, f110_6⟩ := hQ110
  have N110 := Fr.app N102 N110q
  have g_t_110 : n0 ≤ t_110 := Nat.le_trans (old_le O109) ge_t_110
  have K111 : Keep h0 h102 [a1] := Keep.wr (Keep.refl h0 [a1]) W102 (Or.inl (List.mem_of_getElem? (i := 0) rfl))
  have K112 : Keep h0 T110.heap [a1] := Keep.trans K111 K110 (allS (Or.inl (List.mem_of_getElem? (i := 0) rfl)) all0)
  obtain ⟨fs, hr, hrun, hended, hW, hsame⟩ := X110.leave (v := some (.int (1 : Int32))) (fun h => by rw [Bd.returns] at h; cases h)
  refine ⟨_, _, pre0 _ ?_, hrun, hended, _, _, rfl, ?_, ⟨_, rfl⟩, hW, hsame.mono (by decide) (by decide)⟩
  · show Steps p.tables e below (s₁.setTop (mkF m 0 #[.val (.ref a1), .val (.ref e1)] [])) _
    refine XS.aloadN X0.here hx rfl (hb hby d14_0) rfl rfl ?_
    refine XS.dup X0.here hx rfl (hb hby d14_1) rfl rfl ?_
    show Steps p.tables e below (s₁.setTop (mkF m 2 #[.val (.ref a1), .val (.ref e1)] [(.ref a1), (.ref a1)])) _
    refine st101 _ ?_
    show Steps p.tables e below (T101.setTop (mkF m 5 #[.val (.ref a1), .val (.ref e1)] [(.int m1), (.ref a1)])) _
    refine XS.iconst X101.here hx rfl (hb hby d14_5) ?_
    refine XS.iadd X101.here hx rfl (hb hby d14_6) rfl ?_
    show Steps p.tables e below (T101.setTop (mkF m 7 #[.val (.ref a1), .val (.ref e1)] [(.int (m1 + (1 : Int32))), (.ref a1)])) _
    refine st102 _ ?_
    show Steps p.tables e below (T102.setTop (mkF m 10 #[.val (.ref a1), .val (.ref e1)] [])) _
    refine XS.aloadN X102.here hx rfl (hb hby d14_10) rfl rfl ?_
    refine XS.aloadN X102.here hx rfl (hb hby d14_11) rfl rfl ?_
    refine XS.aloadN X102.here hx rfl (hb hby d14_12) rfl rfl ?_
    show Steps p.tables e below (T102.setTop (mkF m 13 #[.val (.ref a1), .val (.ref e1)] [(.ref a1), (.ref e1), (.ref a1)])) _
    refine st104 _ ?_
    show Steps p.tables e below (T104.setTop (mkF m 16 #[.val (.ref a1), .val (.ref e1)] [(.ref wd), (.ref e1), (.ref a1)])) _
    refine XS.aloadN X104.here hx rfl (hb hby d14_16) rfl rfl ?_
    show Steps p.tables e below (T104.setTop (mkF m 17 #[.val (.ref a1), .val (.ref e1)] [(.ref a1), (.ref wd), (.ref e1), (.ref a1)])) _
    refine st106 _ ?_
    show Steps p.tables e below (T106.setTop (mkF m 20 #[.val (.ref a1), .val (.ref e1)] [(.int (0 : Int32)), (.ref wd), (.ref e1), (.ref a1)])) _
    refine st110.trans ?_
    show Steps p.tables e below (T110.setTop (mkF m 23 #[.val (.ref a1), .val (.ref e1)] [])) _
    refine XS.iconst X110.here hx rfl (hb hby d14_23) ?_
    show Steps p.tables e below (T110.setTop (mkF m 24 #[.val (.ref a1), .val (.ref e1)] [(.int (1 : Int32))])) _
    exact Jvm.RoadKit.retOut X110 hx Bd.returns rfl (Or.inl ⟨rfl, by simp, _, rfl⟩) (hb hby d14_24) hr
  · show Q_rm14_0D Z a1 e1 m1 wd kd vd h0 n0 _ T110.heap _
    unfold Q_rm14_0D
    exact ⟨t_110, k_110, rfl, N110, K112, (Nat.le_trans (Nat.le_trans (Nat.le_refl _) (Nat.le_of_eq W102.size.symm)) ge_t_110), f110_0, f110_1, f110_2, f110_3, f110_4, f110_5, f110_6⟩
theorem ef_rm15_1D (m : MethodId) (x0 : Addr) (x1 : Addr) (x2 : Addr) (x3 : Int32) : entryFrame m #[(.ref x0), (.ref x1), (.ref x2), (.int x3)] 4 = mkF m 0 #[.val (.ref x0), .val (.ref x1), .val (.ref x2), .val (.int x3)] [] := by first | (simp [entryFrame, mkF, argsToLocals, Value.category]; done) | rfl
def Q_rm15_1D (Z : State) (a1 : Addr) (e1 : Addr) (x0 : Addr) (m1 : Int32) (t1 : Addr) (k1 : ClassId) (h0 : Heap) (n0 : Nat) (v : Option Value) (h : Heap) (L : List Loc) : Prop := (v = none) ∧ (Fr n0 L) ∧ (Keep h0 h [a1, t1]) ∧ (Exa Z h a1 "java/util/ArrayList") ∧ (Fld Z h a1 "java/util/ArrayList" "elementData" "[Ljava/lang/Object;" (.ref t1)) ∧ (Fld Z h a1 "java/util/ArrayList" "size" "I" (.int (2 : Int32))) ∧ (Fld Z h a1 "java/util/AbstractList" "modCount" "I" (.int m1)) ∧ (Arv Z h t1 k1 (.object "java/lang/Object") (10 : Int32) [(.ref x0), (.ref e1), .null, .null, .null, .null, .null, .null, .null, .null] .null) ∧ (Ovr Z k1 "java/lang/Object")
set_option maxRecDepth 65536 in
set_option maxHeartbeats 40000000 in
theorem rm15_1D (l : Launch) (Z : State) (a0 : Array Value) (hw : ∀ d ∈ tables_1, d.before a0 Z = true) (ws : List Jvm.Cond) (a1 : Addr) (e1 : Addr) (x0 : Addr) (m1 : Int32) (t1 : Addr) (k1 : ClassId) (h0 : Heap) (n0 : Nat) (O0 : Old Z n0 h0) (LE : Exa Z h0 a1 "java/util/ArrayList") (LD : Fld Z h0 a1 "java/util/ArrayList" "elementData" "[Ljava/lang/Object;" (.ref t1)) (LS : Fld Z h0 a1 "java/util/ArrayList" "size" "I" (.int (1 : Int32))) (LM : Fld Z h0 a1 "java/util/AbstractList" "modCount" "I" (.int m1)) (LV : Arv Z h0 t1 k1 (.object "java/lang/Object") (10 : Int32) [(.ref x0), .null, .null, .null, .null, .null, .null, .null, .null, .null] .null) (LO : Ovr Z k1 "java/lang/Object") (g1 : n0 ≤ a1) (EE : Exa Z h0 e1 "com/example/fixlore/fixlore/lang/GraphBuilder$Draft") (gt : n0 ≤ t1) (nt : t1 ≠ a1) :
    MetFree l (⟨"java/util/ArrayList", "add", "(Ljava/lang/Object;[Ljava/lang/Object;I)V"⟩ : MethodName) (head1 (Jvm.Cond.code (⟨"java/util/ArrayList", "add", "(Ljava/lang/Object;[Ljava/lang/Object;I)V"⟩ : MethodName) jdk_38_method_24_code 4 none :: ws) ({ frames := 0, cells := 0, slots := 0, locals := 0 } : Room)) (fun a U => a = #[(.ref a1), (.ref e1), (.ref t1), (.int (1 : Int32))] ∧ Z.Warmed39 U.vm ∧ U.heap = h0) (fun _ _ _ _ _ => True) (fun _ U o U' => ∃ v L, o = .returned v ∧ Q_rm15_1D Z a1 e1 x0 m1 t1 k1 h0 n0 v U'.heap L ∧ FrameEnd U o U' L ({ frames := 0, cells := 0, slots := 0, locals := 0 } : Room).cells ({ frames := 0, cells := 0, slots := 0, locals := 0 } : Room).slots) := by
  refine MetFree.of_bodySF (plainFor_of_name pn_2) hisR ?_
  intro p e s m args below meth c s₁ Bd hml0 hP hK
  obtain ⟨rfl, hZ, hh⟩ := hP
  have hx := Bd.exec
  have hby := Bd.bytes
  have hml : c.maxLocals = 4 := hml0
  have hown : s.vm.findClass "java/util/ArrayList" = some m.cls := findClass_of_methodNamed Bd.named
  have hnm := (name_of_methodNamed Bd.named Bd.method).1
  have X0 : Stand p l e ({ frames := 0, cells := 0, slots := 0, locals := 0 } : Room) s m #[(.ref a1), (.ref e1), (.ref t1), (.int (1 : Int32))] below meth c s₁ [] 0 0 := Stand.of_body Bd
  have e0 : s₁.heap = h0 := by rw [← hh, Bd.state]; rfl
  have N0 := Fr.nil n0
  have Z0 : n0 ≤ h0.size := old_le O0
  have pre0 : ∀ t, Steps p.tables e below (s₁.setTop (mkF m 0 #[.val (.ref a1), .val (.ref e1), .val (.ref t1), .val (.int (1 : Int32))] [])) t → Steps p.tables e below (s₁.setTop (entryFrame m #[(.ref a1), (.ref e1), (.ref t1), (.int (1 : Int32))] 4)) t := fun t k => castTop (ef_rm15_1D m a1 e1 t1 (1 : Int32)) k
  obtain ⟨cl101, Ar101, -, Sz101, Nn101, -, -⟩ := id LV
  obtain ⟨clq102, Arq102, kqq102, Szq102, Nnq102, Hsq102, Gsq102⟩ := id LV
  have hinq102 : ¬ ((1 : Int32) < 0 ∨ clq102.slots.size ≤ ((1 : Int32)).toNatClampNeg) := inb_of Szq102 ⟨by decide, by decide⟩
  obtain ⟨T103, h103, X103, e103, W103, st103⟩ := stR X0 hx hZ e0 Arq102 (j := (1 : Int32)) hinq102 rfl (Sto.ofV Arq102 kqq102 LO (Ins.of_exa EE (hwk hw 181 rfl))) (g := (mkF m 14 #[.val (.ref a1), .val (.ref e1), .val (.ref t1), .val (.int (1 : Int32))] [(.ref e1), (.int (1 : Int32)), (.ref t1)])) rfl rfl (hb hby d15_14)
  have V103 : Arv Z h103 t1 k1 (.object "java/lang/Object") (10 : Int32) [(.ref x0), (.ref e1), .null, .null, .null, .null, .null, .null, .null, .null] .null := Arv.set Arq102 kqq102 Szq102 Nnq102 Hsq102 Gsq102 rfl W103 1 rfl (Nat.le_of_ble_eq_true rfl)
  have N103 := Fr.snoc X103 N0 gt
  have c104 : Exa Z h103 a1 "java/util/ArrayList" := (Exa.wr W103 LE)
  have c105 : Fld Z h103 a1 "java/util/ArrayList" "size" "I" (.int (1 : Int32)) := (Fld.other W103 LS (Or.inl (Ne.symm nt)))
  obtain ⟨T106, h106, X106, e106, W106, st106⟩ := putF X103 hx hZ hown (host := "") (Or.inl (hwk hw 159 rfl)) Via.refl e103 c105 c104 (Or.inl (hwk hw 160 rfl)) (hwk hw 10 rfl) (ty := .int) (by decide) rfl rfl (g := (mkF m 19 #[.val (.ref a1), .val (.ref e1), .val (.ref t1), .val (.int (1 : Int32))] [(.int (2 : Int32)), (.ref a1)])) rfl rfl (hb hby d15_19)
  have F106 : Fld Z h106 a1 "java/util/ArrayList" "size" "I" (.int (2 : Int32)) := Fld.same W106 c105
  have N106 := Fr.snoc X106 N103 g1
  have K107 : Keep h0 h103 [a1, t1] := Keep.wr (Keep.refl h0 [a1, t1]) W103 (Or.inl (List.mem_of_getElem? (i := 1) rfl))
  have K108 : Keep h0 h106 [a1, t1] := Keep.wr K107 W106 (Or.inl (List.mem_of_getElem? (i := 0) rfl))
  have c109 : Exa Z h106 a1 "java/util/ArrayList" := (Exa.wr W106 c104)
  have c110 : Fld Z h106 a1 "java/util/ArrayList" "elementData" "[Ljava/lang/Object;" (.ref t1) := (Fld.other W106 (Fld.other W103 LD (Or.inl (Ne.symm nt))) (Or.inr (slot_ne (Or.inl (hwk hw 32 rfl)) (Or.inl (hwk hw 160 rfl)) (by decide) (t := (.array (.object "java/lang/Object"))) (t' := .int) (by decide) (by decide))))
  have c111 : Fld Z h106 a1 "java/util/AbstractList" "modCount" "I" (.int m1) := (Fld.other W106 (Fld.other W103 LM (Or.inl (Ne.symm nt))) (Or.inr (slot_ne (Or.inl (hwk hw 29 rfl)) (Or.inl (hwk hw 160 rfl)) (by decide) (t := .int) (t' := .int) (by decide) (by decide))))
  have c112 : Arv Z h106 t1 k1 (.object "java/lang/Object") (10 : Int32) [(.ref x0), (.ref e1), .null, .null, .null, .null, .null, .null, .null, .null] .null := (Arv.other V103 W106 nt)
  obtain ⟨fs, hr, hrun, hended, hW, hsame⟩ := X106.leave (v := none) (fun _ => rfl)
  refine ⟨_, _, pre0 _ ?_, hrun, hended, _, _, rfl, ?_, ⟨_, rfl⟩, hW, hsame.mono (by decide) (by decide)⟩
  · show Steps p.tables e below (s₁.setTop (mkF m 0 #[.val (.ref a1), .val (.ref e1), .val (.ref t1), .val (.int (1 : Int32))] [])) _
    refine XS.iloadN X0.here hx rfl (hb hby d15_0) rfl ?_
    refine XS.aloadN X0.here hx rfl (hb hby d15_1) rfl rfl ?_
    show Steps p.tables e below (s₁.setTop (mkF m 2 #[.val (.ref a1), .val (.ref e1), .val (.ref t1), .val (.int (1 : Int32))] [(.ref t1), (.int (1 : Int32))])) _
    refine X0.arraylength hx (by rw [e0]; exact Ar101.1) (State.isArrayOf_alike hZ.alike Ar101.2.1) (g := (mkF m 2 #[.val (.ref a1), .val (.ref e1), .val (.ref t1), .val (.int (1 : Int32))] [(.ref t1), (.int (1 : Int32))])) rfl rfl (hb hby d15_2) _ ?_
    rw [len_of Sz101 Nn101]
    show Steps p.tables e below (s₁.setTop (mkF m 3 #[.val (.ref a1), .val (.ref e1), .val (.ref t1), .val (.int (1 : Int32))] [(.int (10 : Int32)), (.int (1 : Int32))])) _
    refine XS.icmpYes X0.here hx rfl (pc0 := 3) (pc' := 11) rfl (hb hby d15_3) rfl (feq (by decide : ¬ ((1 : Int32) = (10 : Int32)))).2 (by decide) (by decide) ?_
    show Steps p.tables e below (s₁.setTop (mkF m 11 #[.val (.ref a1), .val (.ref e1), .val (.ref t1), .val (.int (1 : Int32))] [])) _
    refine XS.aloadN X0.here hx rfl (hb hby d15_11) rfl rfl ?_
    refine XS.iloadN X0.here hx rfl (hb hby d15_12) rfl ?_
    refine XS.aloadN X0.here hx rfl (hb hby d15_13) rfl rfl ?_
    show Steps p.tables e below (s₁.setTop (mkF m 14 #[.val (.ref a1), .val (.ref e1), .val (.ref t1), .val (.int (1 : Int32))] [(.ref e1), (.int (1 : Int32)), (.ref t1)])) _
    refine st103 _ ?_
    show Steps p.tables e below (T103.setTop (mkF m 15 #[.val (.ref a1), .val (.ref e1), .val (.ref t1), .val (.int (1 : Int32))] [])) _
    refine XS.aloadN X103.here hx rfl (hb hby d15_15) rfl rfl ?_
    refine XS.iloadN X103.here hx rfl (hb hby d15_16) rfl ?_
    refine XS.iconst X103.here hx rfl (hb hby d15_17) ?_
    refine XS.iadd X103.here hx rfl (hb hby d15_18) rfl ?_
    show Steps p.tables e below (T103.setTop (mkF m 19 #[.val (.ref a1), .val (.ref e1), .val (.ref t1), .val (.int (1 : Int32))] [(.int ((1 : Int32) + (1 : Int32))), (.ref a1)])) _
    rw [show ((1 : Int32) + (1 : Int32)) = (2 : Int32) from by decide]
    show Steps p.tables e below (T103.setTop (mkF m 19 #[.val (.ref a1), .val (.ref e1), .val (.ref t1), .val (.int (1 : Int32))] [(.int (2 : Int32)), (.ref a1)])) _
    refine st106 _ ?_
    show Steps p.tables e below (T106.setTop (mkF m 22 #[.val (.ref a1), .val (.ref e1), .val (.ref t1), .val (.int (1 : Int32))] [])) _
    exact X106.returnOut hx Bd.returns (hb hby d15_22) hr
  · show Q_rm15_1D Z a1 e1 x0 m1 t1 k1 h0 n0 _ T106.heap _
    rw [e106]
    unfold Q_rm15_1D
    exact ⟨rfl, N106, K108, c109, c110, F106, c111, c112, LO⟩
theorem ef_rm14_1D (m : MethodId) (x0 : Addr) (x1 : Addr) : entryFrame m #[(.ref x0), (.ref x1)] 2 = mkF m 0 #[.val (.ref x0), .val (.ref x1)] [] := by first | (simp [entryFrame, mkF, argsToLocals, Value.category]; done) | rfl
def Q_rm14_1D (Z : State) (a1 : Addr) (e1 : Addr) (x0 : Addr) (m1 : Int32) (t1 : Addr) (k1 : ClassId) (h0 : Heap) (n0 : Nat) (v : Option Value) (h : Heap) (L : List Loc) : Prop := (v = some (.int (1 : Int32))) ∧ (Fr n0 L) ∧ (Keep h0 h [a1, t1]) ∧ (Exa Z h a1 "java/util/ArrayList") ∧ (Fld Z h a1 "java/util/ArrayList" "elementData" "[Ljava/lang/Object;" (.ref t1)) ∧ (Fld Z h a1 "java/util/ArrayList" "size" "I" (.int (2 : Int32))) ∧ (Fld Z h a1 "java/util/AbstractList" "modCount" "I" (.int (m1 + (1 : Int32)))) ∧ (Arv Z h t1 k1 (.object "java/lang/Object") (10 : Int32) [(.ref x0), (.ref e1), .null, .null, .null, .null, .null, .null, .null, .null] .null) ∧ (Ovr Z k1 "java/lang/Object")
set_option maxRecDepth 65536 in
set_option maxHeartbeats 40000000 in
theorem rm14_1D (l : Launch) (Z : State) (a0 : Array Value) (hw : ∀ d ∈ tables_1, d.before a0 Z = true) (ws : List Jvm.Cond) (a1 : Addr) (e1 : Addr) (x0 : Addr) (m1 : Int32) (t1 : Addr) (k1 : ClassId) (h0 : Heap) (n0 : Nat) (O0 : Old Z n0 h0) (LE : Exa Z h0 a1 "java/util/ArrayList") (LD : Fld Z h0 a1 "java/util/ArrayList" "elementData" "[Ljava/lang/Object;" (.ref t1)) (LS : Fld Z h0 a1 "java/util/ArrayList" "size" "I" (.int (1 : Int32))) (LM : Fld Z h0 a1 "java/util/AbstractList" "modCount" "I" (.int m1)) (LV : Arv Z h0 t1 k1 (.object "java/lang/Object") (10 : Int32) [(.ref x0), .null, .null, .null, .null, .null, .null, .null, .null, .null] .null) (LO : Ovr Z k1 "java/lang/Object") (g1 : n0 ≤ a1) (EE : Exa Z h0 e1 "com/example/fixlore/fixlore/lang/GraphBuilder$Draft") (gt : n0 ≤ t1) (nt : t1 ≠ a1) :
    MetFree l (⟨"java/util/ArrayList", "add", "(Ljava/lang/Object;)Z"⟩ : MethodName) (head1 (Jvm.Cond.code (⟨"java/util/ArrayList", "add", "(Ljava/lang/Object;)Z"⟩ : MethodName) jdk_38_method_25_code 2 (some .boolean) :: ws) ({ frames := 1, cells := 0, slots := 0, locals := 15 } : Room)) (fun a U => a = #[(.ref a1), (.ref e1)] ∧ Z.Warmed39 U.vm ∧ U.heap = h0) (fun _ _ _ _ _ => True) (fun _ U o U' => ∃ v L, o = .returned v ∧ Q_rm14_1D Z a1 e1 x0 m1 t1 k1 h0 n0 v U'.heap L ∧ FrameEnd U o U' L ({ frames := 1, cells := 0, slots := 0, locals := 15 } : Room).cells ({ frames := 1, cells := 0, slots := 0, locals := 15 } : Room).slots) := by
  refine MetFree.of_bodySF (plainFor_of_name pn_2) hisR ?_
  intro p e s m args below meth c s₁ Bd hml0 hP hK
  obtain ⟨rfl, hZ, hh⟩ := hP
  have hx := Bd.exec
  have hby := Bd.bytes
  have hml : c.maxLocals = 2 := hml0
  have hown : s.vm.findClass "java/util/ArrayList" = some m.cls := findClass_of_methodNamed Bd.named
  have hnm := (name_of_methodNamed Bd.named Bd.method).1
  have X0 : Stand p l e ({ frames := 1, cells := 0, slots := 0, locals := 15 } : Room) s m #[(.ref a1), (.ref e1)] below meth c s₁ [] 0 0 := Stand.of_body Bd
  have e0 : s₁.heap = h0 := by rw [← hh, Bd.state]; rfl
  have N0 := Fr.nil n0
  have Z0 : n0 ≤ h0.size := old_le O0
  have pre0 : ∀ t, Steps p.tables e below (s₁.setTop (mkF m 0 #[.val (.ref a1), .val (.ref e1)] [])) t → Steps p.tables e below (s₁.setTop (entryFrame m #[(.ref a1), (.ref e1)] 2)) t := fun t k => castTop (ef_rm14_1D m a1 e1) k
  obtain ⟨T101, X101, e101, st101⟩ := getF X0 hx hZ hown (host := "") (Or.inl (hwk hw 157 rfl)) (Via.of (hwk hw 158 rfl)) e0 LM (g := (mkF m 2 #[.val (.ref a1), .val (.ref e1)] [(.ref a1), (.ref a1)])) rfl rfl (hb hby d14_2)
  obtain ⟨T102, h102, X102, e102, W102, st102⟩ := putF X101 hx hZ hown (host := "") (Or.inl (hwk hw 157 rfl)) (Via.of (hwk hw 158 rfl)) e101 LM LE (Or.inl (hwk hw 29 rfl)) (hwk hw 10 rfl) (ty := .int) (by decide) rfl rfl (g := (mkF m 7 #[.val (.ref a1), .val (.ref e1)] [(.int (m1 + (1 : Int32))), (.ref a1)])) rfl rfl (hb hby d14_7)
  have F102 : Fld Z h102 a1 "java/util/AbstractList" "modCount" "I" (.int (m1 + (1 : Int32))) := Fld.same W102 LM
  have N102 := Fr.snoc X102 N0 g1
  have c103 : Fld Z h102 a1 "java/util/ArrayList" "elementData" "[Ljava/lang/Object;" (.ref t1) := (Fld.other W102 LD (Or.inr (slot_ne (Or.inl (hwk hw 32 rfl)) (Or.inl (hwk hw 29 rfl)) (by decide) (t := (.array (.object "java/lang/Object"))) (t' := .int) (by decide) (by decide))))
  obtain ⟨T104, X104, e104, st104⟩ := getF X102 hx hZ hown (host := "") (Or.inl (hwk hw 31 rfl)) Via.refl e102 c103 (g := (mkF m 13 #[.val (.ref a1), .val (.ref e1)] [(.ref a1), (.ref e1), (.ref a1)])) rfl rfl (hb hby d14_13)
  have c105 : Fld Z h102 a1 "java/util/ArrayList" "size" "I" (.int (1 : Int32)) := (Fld.other W102 LS (Or.inr (slot_ne (Or.inl (hwk hw 160 rfl)) (Or.inl (hwk hw 29 rfl)) (by decide) (t := .int) (t' := .int) (by decide) (by decide))))
  obtain ⟨T106, X106, e106, st106⟩ := getF X104 hx hZ hown (host := "") (Or.inl (hwk hw 159 rfl)) Via.refl e104 c105 (g := (mkF m 17 #[.val (.ref a1), .val (.ref e1)] [(.ref a1), (.ref t1), (.ref e1), (.ref a1)])) rfl rfl (hb hby d14_17)
  have c107 : Exa Z h102 a1 "java/util/ArrayList" := (Exa.wr W102 LE)
  have c108 : Arv Z h102 t1 k1 (.object "java/lang/Object") (10 : Int32) [(.ref x0), .null, .null, .null, .null, .null, .null, .null, .null, .null] .null := (Arv.other LV W102 nt)
  have c109 : Exa Z h102 e1 "com/example/fixlore/fixlore/lang/GraphBuilder$Draft" := (Exa.wr W102 EE)
  have O110 : Old Z n0 h102 := Old.wr O0 W102 g1
  obtain ⟨cq111, q111, q111'⟩ := (c107).cell
  obtain ⟨_, _, ⟨T111, L111, k111, n111⟩, -, X111, ⟨Lc111, hQ111, l111, y111, z111⟩, st111⟩ := X106.privateBack hx (y := (⟨"java/util/ArrayList", "add", "(Ljava/lang/Object;[Ljava/lang/Object;I)V"⟩ : MethodName)) hown (mvT hZ (hwk hw 161 rfl)) (mvT hZ (hwk hw 162 rfl)) (mvT hZ (hwk hw 164 rfl)) (Cond.privateMethod_at (mvP hZ (hwk hw 163 rfl) (args := #[]))) (mvT hZ (hwk hw 165 rfl)) (by decide) (backOf (W := 0) (rm15_1D l Z a0 hw [] a1 e1 x0 (m1 + (1 : Int32)) t1 k1 h102 n0 O110 c107 c103 c105 F102 c108 LO g1 c109 gt nt) hZ (hwk hw 165 rfl) (hwk hw 11 rfl) (by decide) (by decide)) (g := (mkF m 20 #[.val (.ref a1), .val (.ref e1)] [(.int (1 : Int32)), (.ref t1), (.ref e1), (.ref a1)])) rfl (by rw [hml]; rfl) (Steps.refl _) (a := a1) (by rw [e106]; exact q111) q111' (argsL := [(.ref e1), (.ref t1), (.int (1 : Int32))]) (rest := []) (lenOf pd_4 rfl) rfl (by show 2 * 0 + _ ≤ _; exact Nat.le_of_eq rfl) (hb hby d14_20) (fun _ _ => ⟨rfl, e106, (by decide : 0 + 0 ≤ _), (by decide : 0 + 0 ≤ _)⟩)
  dsimp only [Pt.U, Pt.locs, Pt.cells, Pt.slots] at X111 l111 y111 z111 st111 hQ111
  subst l111 y111 z111
  unfold Q_rm15_1D at hQ111
  obtain ⟨rfl, N111q, K111, f111_0, f111_1, f111_2, f111_3, f111_4, f111_5⟩ := hQ111
  have N111 := Fr.app N102 N111q
  have K112 : Keep h0 h102 [a1, t1] := Keep.wr (Keep.refl h0 [a1, t1]) W102 (Or.inl (List.mem_of_getElem? (i := 0) rfl))
  have K113 : Keep h0 T111.heap [a1, t1] := Keep.trans K112 K111 (allS (Or.inl (List.mem_of_getElem? (i := 0) rfl)) (allS (Or.inl (List.mem_of_getElem? (i := 1) rfl)) all0))
  obtain ⟨fs, hr, hrun, hended, hW, hsame⟩ := X111.leave (v := some (.int (1 : Int32))) (fun h => by rw [Bd.returns] at h; cases h)
  refine ⟨_, _, pre0 _ ?_, hrun, hended, _, _, rfl, ?_, ⟨_, rfl⟩, hW, hsame.mono (by decide) (by decide)⟩
  · show Steps p.tables e below (s₁.setTop (mkF m 0 #[.val (.ref a1), .val (.ref e1)] [])) _
    refine XS.aloadN X0.here hx rfl (hb hby d14_0) rfl rfl ?_
    refine XS.dup X0.here hx rfl (hb hby d14_1) rfl rfl ?_
    show Steps p.tables e below (s₁.setTop (mkF m 2 #[.val (.ref a1), .val (.ref e1)] [(.ref a1), (.ref a1)])) _
    refine st101 _ ?_
    show Steps p.tables e below (T101.setTop (mkF m 5 #[.val (.ref a1), .val (.ref e1)] [(.int m1), (.ref a1)])) _
    refine XS.iconst X101.here hx rfl (hb hby d14_5) ?_
    refine XS.iadd X101.here hx rfl (hb hby d14_6) rfl ?_
    show Steps p.tables e below (T101.setTop (mkF m 7 #[.val (.ref a1), .val (.ref e1)] [(.int (m1 + (1 : Int32))), (.ref a1)])) _
    refine st102 _ ?_
    show Steps p.tables e below (T102.setTop (mkF m 10 #[.val (.ref a1), .val (.ref e1)] [])) _
    refine XS.aloadN X102.here hx rfl (hb hby d14_10) rfl rfl ?_
    refine XS.aloadN X102.here hx rfl (hb hby d14_11) rfl rfl ?_
    refine XS.aloadN X102.here hx rfl (hb hby d14_12) rfl rfl ?_
    show Steps p.tables e below (T102.setTop (mkF m 13 #[.val (.ref a1), .val (.ref e1)] [(.ref a1), (.ref e1), (.ref a1)])) _
    refine st104 _ ?_
    show Steps p.tables e below (T104.setTop (mkF m 16 #[.val (.ref a1), .val (.ref e1)] [(.ref t1), (.ref e1), (.ref a1)])) _
    refine XS.aloadN X104.here hx rfl (hb hby d14_16) rfl rfl ?_
    show Steps p.tables e below (T104.setTop (mkF m 17 #[.val (.ref a1), .val (.ref e1)] [(.ref a1), (.ref t1), (.ref e1), (.ref a1)])) _
    refine st106 _ ?_
    show Steps p.tables e below (T106.setTop (mkF m 20 #[.val (.ref a1), .val (.ref e1)] [(.int (1 : Int32)), (.ref t1), (.ref e1), (.ref a1)])) _
    refine st111.trans ?_
    show Steps p.tables e below (T111.setTop (mkF m 23 #[.val (.ref a1), .val (.ref e1)] [])) _
    refine XS.iconst X111.here hx rfl (hb hby d14_23) ?_
    show Steps p.tables e below (T111.setTop (mkF m 24 #[.val (.ref a1), .val (.ref e1)] [(.int (1 : Int32))])) _
    exact Jvm.RoadKit.retOut X111 hx Bd.returns rfl (Or.inl ⟨rfl, by simp, _, rfl⟩) (hb hby d14_24) hr
  · show Q_rm14_1D Z a1 e1 x0 m1 t1 k1 h0 n0 _ T111.heap _
    unfold Q_rm14_1D
    exact ⟨rfl, N111, K113, f111_0, f111_1, f111_2, f111_3, f111_4, LO⟩
theorem ef_rm15_0E (m : MethodId) (x0 : Addr) (x1 : Addr) (x2 : Addr) (x3 : Int32) : entryFrame m #[(.ref x0), (.ref x1), (.ref x2), (.int x3)] 4 = mkF m 0 #[.val (.ref x0), .val (.ref x1), .val (.ref x2), .val (.int x3)] [] := by first | (simp [entryFrame, mkF, argsToLocals, Value.category]; done) | rfl
def Q_rm15_0E (Z : State) (a1 : Addr) (e1 : Addr) (m1 : Int32) (wd : Addr) (kd : ClassId) (vd : List Value) (h0 : Heap) (n0 : Nat) (v : Option Value) (h : Heap) (L : List Loc) : Prop := ∃ t : Addr, ∃ k : ClassId, (v = none) ∧ (Fr n0 L) ∧ (Keep h0 h [a1]) ∧ (h0.size ≤ t) ∧ (Exa Z h a1 "java/util/ArrayList") ∧ (Fld Z h a1 "java/util/ArrayList" "elementData" "[Ljava/lang/Object;" (.ref t)) ∧ (Fld Z h a1 "java/util/ArrayList" "size" "I" (.int (1 : Int32))) ∧ (Fld Z h a1 "java/util/AbstractList" "modCount" "I" (.int m1)) ∧ (Arv Z h t k (.object "java/lang/Object") (10 : Int32) [(.ref e1), .null, .null, .null, .null, .null, .null, .null, .null, .null] .null) ∧ (Ovr Z k "java/lang/Object") ∧ (t ≠ a1)
set_option maxRecDepth 65536 in
set_option maxHeartbeats 40000000 in
theorem rm15_0E (l : Launch) (Z : State) (a0 : Array Value) (hw : ∀ d ∈ tables_1, d.before a0 Z = true) (ws : List Jvm.Cond) (a1 : Addr) (e1 : Addr) (m1 : Int32) (wd : Addr) (kd : ClassId) (vd : List Value) (h0 : Heap) (n0 : Nat) (O0 : Old Z n0 h0) (LE : Exa Z h0 a1 "java/util/ArrayList") (LD : Fld Z h0 a1 "java/util/ArrayList" "elementData" "[Ljava/lang/Object;" (.ref wd)) (LS : Fld Z h0 a1 "java/util/ArrayList" "size" "I" (.int (0 : Int32))) (LM : Fld Z h0 a1 "java/util/AbstractList" "modCount" "I" (.int m1)) (g1 : n0 ≤ a1) (EE : Exa Z h0 e1 "com/example/fixlore/fixlore/lang/GraphBuilder$End") (SD : Sta Z Z.heap "java/util/ArrayList" "DEFAULTCAPACITY_EMPTY_ELEMENTDATA" "[Ljava/lang/Object;" (.ref wd)) (VD : Arv Z Z.heap wd kd (.object "java/lang/Object") (0 : Int32) vd .null) :
    MetFree l (⟨"java/util/ArrayList", "add", "(Ljava/lang/Object;[Ljava/lang/Object;I)V"⟩ : MethodName) (head1 (Jvm.Cond.code (⟨"java/util/ArrayList", "add", "(Ljava/lang/Object;[Ljava/lang/Object;I)V"⟩ : MethodName) jdk_38_method_24_code 4 none :: ws) ({ frames := 3, cells := 1, slots := 10, locals := 41 } : Room)) (fun a U => a = #[(.ref a1), (.ref e1), (.ref wd), (.int (0 : Int32))] ∧ Z.Warmed39 U.vm ∧ U.heap = h0) (fun _ _ _ _ _ => True) (fun _ U o U' => ∃ v L, o = .returned v ∧ Q_rm15_0E Z a1 e1 m1 wd kd vd h0 n0 v U'.heap L ∧ FrameEnd U o U' L ({ frames := 3, cells := 1, slots := 10, locals := 41 } : Room).cells ({ frames := 3, cells := 1, slots := 10, locals := 41 } : Room).slots) := by
  refine MetFree.of_bodySF (plainFor_of_name pn_2) hisR ?_
  intro p e s m args below meth c s₁ Bd hml0 hP hK
  obtain ⟨rfl, hZ, hh⟩ := hP
  have hx := Bd.exec
  have hby := Bd.bytes
  have hml : c.maxLocals = 4 := hml0
  have hown : s.vm.findClass "java/util/ArrayList" = some m.cls := findClass_of_methodNamed Bd.named
  have hnm := (name_of_methodNamed Bd.named Bd.method).1
  have X0 : Stand p l e ({ frames := 3, cells := 1, slots := 10, locals := 41 } : Room) s m #[(.ref a1), (.ref e1), (.ref wd), (.int (0 : Int32))] below meth c s₁ [] 0 0 := Stand.of_body Bd
  have e0 : s₁.heap = h0 := by rw [← hh, Bd.state]; rfl
  have N0 := Fr.nil n0
  have Z0 : n0 ≤ h0.size := old_le O0
  have pre0 : ∀ t, Steps p.tables e below (s₁.setTop (mkF m 0 #[.val (.ref a1), .val (.ref e1), .val (.ref wd), .val (.int (0 : Int32))] [])) t → Steps p.tables e below (s₁.setTop (entryFrame m #[(.ref a1), (.ref e1), (.ref wd), (.int (0 : Int32))] 4)) t := fun t k => castTop (ef_rm15_0E m a1 e1 wd (0 : Int32)) k
  have c101 : Arv Z h0 wd kd (.object "java/lang/Object") (0 : Int32) vd .null := VD.ext O0.2
  obtain ⟨cl102, Ar102, -, Sz102, Nn102, -, -⟩ := id c101
  obtain ⟨cq103, q103, q103'⟩ := (LE).cell
  obtain ⟨_, _, ⟨T103, L103, k103, n103⟩, -, X103, ⟨Lc103, hQ103, l103, y103, z103⟩, st103⟩ := X0.privateBack hx (y := (⟨"java/util/ArrayList", "grow", "()[Ljava/lang/Object;"⟩ : MethodName)) hown (mvT hZ (hwk hw 166 rfl)) (mvT hZ (hwk hw 167 rfl)) (mvT hZ (hwk hw 169 rfl)) (Cond.privateMethod_at (mvP hZ (hwk hw 168 rfl) (args := #[]))) (mvT hZ (hwk hw 170 rfl)) (by decide) (backOf (W := 0) (rm16 l Z a0 hw [] a1 m1 wd kd vd h0 n0 O0 LE LD LS LM g1 SD VD) hZ (hwk hw 170 rfl) (hwk hw 11 rfl) (by decide) (by decide)) (g := (mkF m 7 #[.val (.ref a1), .val (.ref e1), .val (.ref wd), .val (.int (0 : Int32))] [(.ref a1)])) rfl (by rw [hml]; rfl) (Steps.refl _) (a := a1) (by rw [e0]; exact q103) q103' (argsL := []) (rest := []) (lenOf pd_3 rfl) rfl (by show 2 * 0 + _ ≤ _; exact Nat.le_of_eq rfl) (hb hby d15_7) (fun _ _ => ⟨rfl, e0, (by decide : 0 + 1 ≤ _), (by decide : 0 + 10 ≤ _)⟩)
  dsimp only [Pt.U, Pt.locs, Pt.cells, Pt.slots] at X103 l103 y103 z103 st103 hQ103
  subst l103 y103 z103
  unfold Q_rm16 at hQ103
  obtain ⟨t_103, k_103, rfl, N103q, K103, ge_t_103, f103_0, f103_1, f103_2, f103_3, f103_4, f103_5⟩ := hQ103
  have N103 := Fr.app N0 N103q
  have g_t_103 : n0 ≤ t_103 := Nat.le_trans (old_le O0) ge_t_103
  obtain ⟨clq104, Arq104, kqq104, Szq104, Nnq104, Hsq104, Gsq104⟩ := id f103_4
  have hinq104 : ¬ ((0 : Int32) < 0 ∨ clq104.slots.size ≤ ((0 : Int32)).toNatClampNeg) := inb_of Szq104 ⟨by decide, by decide⟩
  have c105 : Exa Z T103.heap e1 "com/example/fixlore/fixlore/lang/GraphBuilder$End" := (Exa.keep EE K103)
  obtain ⟨T106, h106, X106, e106, W106, st106⟩ := stR X103 hx hZ (rfl : T103.heap = T103.heap) Arq104 (j := (0 : Int32)) hinq104 rfl (Sto.ofV Arq104 kqq104 f103_5 (Ins.of_exa c105 (hwk hw 221 rfl))) (g := (mkF m 14 #[.val (.ref a1), .val (.ref e1), .val (.ref t_103), .val (.int (0 : Int32))] [(.ref e1), (.int (0 : Int32)), (.ref t_103)])) rfl rfl (hb hby d15_14)
  have V106 : Arv Z h106 t_103 k_103 (.object "java/lang/Object") (10 : Int32) [(.ref e1), .null, .null, .null, .null, .null, .null, .null, .null, .null] .null := Arv.set Arq104 kqq104 Szq104 Nnq104 Hsq104 Gsq104 rfl W106 0 rfl (Nat.le_of_ble_eq_true rfl)
  have N106 := Fr.snoc X106 N103 g_t_103
  have c107 : Exa Z h106 a1 "java/util/ArrayList" := (Exa.wr W106 f103_0)
  have c108 : Fld Z h106 a1 "java/util/ArrayList" "size" "I" (.int (0 : Int32)) := (Fld.other W106 f103_2 (Or.inl (Exa.neArv c107 V106 (hwk hw 10 rfl))))
  obtain ⟨T109, h109, X109, e109, W109, st109⟩ := putF X106 hx hZ hown (host := "") (Or.inl (hwk hw 159 rfl)) Via.refl e106 c108 c107 (Or.inl (hwk hw 160 rfl)) (hwk hw 10 rfl) (ty := .int) (by decide) rfl rfl (g := (mkF m 19 #[.val (.ref a1), .val (.ref e1), .val (.ref t_103), .val (.int (0 : Int32))] [(.int (1 : Int32)), (.ref a1)])) rfl rfl (hb hby d15_19)
  have F109 : Fld Z h109 a1 "java/util/ArrayList" "size" "I" (.int (1 : Int32)) := Fld.same W109 c108
  have N109 := Fr.snoc X109 N106 g1
  have K110 : Keep h0 T103.heap [a1] := Keep.trans (Keep.refl h0 [a1]) K103 (allS (Or.inl (List.mem_of_getElem? (i := 0) rfl)) all0)
  have K111 : Keep h0 h106 [a1] := Keep.wr K110 W106 (Or.inr (Nat.le_trans (Nat.le_refl _) ge_t_103))
  have K112 : Keep h0 h109 [a1] := Keep.wr K111 W109 (Or.inl (List.mem_of_getElem? (i := 0) rfl))
  have c113 : Exa Z h109 a1 "java/util/ArrayList" := (Exa.wr W109 c107)
  have c114 : Fld Z h109 a1 "java/util/ArrayList" "elementData" "[Ljava/lang/Object;" (.ref t_103) := (Fld.other W109 (Fld.other W106 f103_1 (Or.inl (Exa.neArv c107 V106 (hwk hw 10 rfl)))) (Or.inr (slot_ne (Or.inl (hwk hw 32 rfl)) (Or.inl (hwk hw 160 rfl)) (by decide) (t := (.array (.object "java/lang/Object"))) (t' := .int) (by decide) (by decide))))
  have c115 : Fld Z h109 a1 "java/util/AbstractList" "modCount" "I" (.int m1) := (Fld.other W109 (Fld.other W106 f103_3 (Or.inl (Exa.neArv c107 V106 (hwk hw 10 rfl)))) (Or.inr (slot_ne (Or.inl (hwk hw 29 rfl)) (Or.inl (hwk hw 160 rfl)) (by decide) (t := .int) (t' := .int) (by decide) (by decide))))
  have c116 : Arv Z h109 t_103 k_103 (.object "java/lang/Object") (10 : Int32) [(.ref e1), .null, .null, .null, .null, .null, .null, .null, .null, .null] .null := (Arv.other V106 W109 (Ne.symm (Exa.neArv c107 V106 (hwk hw 10 rfl))))
  obtain ⟨fs, hr, hrun, hended, hW, hsame⟩ := X109.leave (v := none) (fun _ => rfl)
  refine ⟨_, _, pre0 _ ?_, hrun, hended, _, _, rfl, ?_, ⟨_, rfl⟩, hW, hsame.mono (by decide) (by decide)⟩
  · show Steps p.tables e below (s₁.setTop (mkF m 0 #[.val (.ref a1), .val (.ref e1), .val (.ref wd), .val (.int (0 : Int32))] [])) _
    refine XS.iloadN X0.here hx rfl (hb hby d15_0) rfl ?_
    refine XS.aloadN X0.here hx rfl (hb hby d15_1) rfl rfl ?_
    show Steps p.tables e below (s₁.setTop (mkF m 2 #[.val (.ref a1), .val (.ref e1), .val (.ref wd), .val (.int (0 : Int32))] [(.ref wd), (.int (0 : Int32))])) _
    refine X0.arraylength hx (by rw [e0]; exact Ar102.1) (State.isArrayOf_alike hZ.alike Ar102.2.1) (g := (mkF m 2 #[.val (.ref a1), .val (.ref e1), .val (.ref wd), .val (.int (0 : Int32))] [(.ref wd), (.int (0 : Int32))])) rfl rfl (hb hby d15_2) _ ?_
    rw [len_of Sz102 Nn102]
    show Steps p.tables e below (s₁.setTop (mkF m 3 #[.val (.ref a1), .val (.ref e1), .val (.ref wd), .val (.int (0 : Int32))] [(.int (0 : Int32)), (.int (0 : Int32))])) _
    refine XS.icmpNo X0.here hx rfl (hb hby d15_3) rfl (teq (by decide : (0 : Int32) = (0 : Int32))).2 ?_
    show Steps p.tables e below (s₁.setTop (mkF m 6 #[.val (.ref a1), .val (.ref e1), .val (.ref wd), .val (.int (0 : Int32))] [])) _
    refine XS.aloadN X0.here hx rfl (hb hby d15_6) rfl rfl ?_
    show Steps p.tables e below (s₁.setTop (mkF m 7 #[.val (.ref a1), .val (.ref e1), .val (.ref wd), .val (.int (0 : Int32))] [(.ref a1)])) _
    refine st103.trans ?_
    show Steps p.tables e below (T103.setTop (mkF m 10 #[.val (.ref a1), .val (.ref e1), .val (.ref wd), .val (.int (0 : Int32))] [(.ref t_103)])) _
    refine XS.astoreN X103.here hx rfl (hb hby d15_10) rfl rfl (l' := #[.val (.ref a1), .val (.ref e1), .val (.ref t_103), .val (.int (0 : Int32))]) rfl ?_
    show Steps p.tables e below (T103.setTop (mkF m 11 #[.val (.ref a1), .val (.ref e1), .val (.ref t_103), .val (.int (0 : Int32))] [])) _
    refine XS.aloadN X103.here hx rfl (hb hby d15_11) rfl rfl ?_
    refine XS.iloadN X103.here hx rfl (hb hby d15_12) rfl ?_
    refine XS.aloadN X103.here hx rfl (hb hby d15_13) rfl rfl ?_
    show Steps p.tables e below (T103.setTop (mkF m 14 #[.val (.ref a1), .val (.ref e1), .val (.ref t_103), .val (.int (0 : Int32))] [(.ref e1), (.int (0 : Int32)), (.ref t_103)])) _
    refine st106 _ ?_
    show Steps p.tables e below (T106.setTop (mkF m 15 #[.val (.ref a1), .val (.ref e1), .val (.ref t_103), .val (.int (0 : Int32))] [])) _
    refine XS.aloadN X106.here hx rfl (hb hby d15_15) rfl rfl ?_
    refine XS.iloadN X106.here hx rfl (hb hby d15_16) rfl ?_
    refine XS.iconst X106.here hx rfl (hb hby d15_17) ?_
    refine XS.iadd X106.here hx rfl (hb hby d15_18) rfl ?_
    show Steps p.tables e below (T106.setTop (mkF m 19 #[.val (.ref a1), .val (.ref e1), .val (.ref t_103), .val (.int (0 : Int32))] [(.int ((0 : Int32) + (1 : Int32))), (.ref a1)])) _
    rw [show ((0 : Int32) + (1 : Int32)) = (1 : Int32) from by decide]
    show Steps p.tables e below (T106.setTop (mkF m 19 #[.val (.ref a1), .val (.ref e1), .val (.ref t_103), .val (.int (0 : Int32))] [(.int (1 : Int32)), (.ref a1)])) _
    refine st109 _ ?_
    show Steps p.tables e below (T109.setTop (mkF m 22 #[.val (.ref a1), .val (.ref e1), .val (.ref t_103), .val (.int (0 : Int32))] [])) _
    exact X109.returnOut hx Bd.returns (hb hby d15_22) hr
  · show Q_rm15_0E Z a1 e1 m1 wd kd vd h0 n0 _ T109.heap _
    rw [e109]
    unfold Q_rm15_0E
    exact ⟨t_103, k_103, rfl, N109, K112, (Nat.le_trans (Nat.le_refl _) ge_t_103), c113, c114, F109, c115, c116, f103_5, (Ne.symm (Exa.neArv c107 V106 (hwk hw 10 rfl)))⟩
theorem ef_rm14_0E (m : MethodId) (x0 : Addr) (x1 : Addr) : entryFrame m #[(.ref x0), (.ref x1)] 2 = mkF m 0 #[.val (.ref x0), .val (.ref x1)] [] := by first | (simp [entryFrame, mkF, argsToLocals, Value.category]; done) | rfl
def Q_rm14_0E (Z : State) (a1 : Addr) (e1 : Addr) (m1 : Int32) (wd : Addr) (kd : ClassId) (vd : List Value) (h0 : Heap) (n0 : Nat) (v : Option Value) (h : Heap) (L : List Loc) : Prop := ∃ t : Addr, ∃ k : ClassId, (v = some (.int (1 : Int32))) ∧ (Fr n0 L) ∧ (Keep h0 h [a1]) ∧ (h0.size ≤ t) ∧ (Exa Z h a1 "java/util/ArrayList") ∧ (Fld Z h a1 "java/util/ArrayList" "elementData" "[Ljava/lang/Object;" (.ref t)) ∧ (Fld Z h a1 "java/util/ArrayList" "size" "I" (.int (1 : Int32))) ∧ (Fld Z h a1 "java/util/AbstractList" "modCount" "I" (.int (m1 + (1 : Int32)))) ∧ (Arv Z h t k (.object "java/lang/Object") (10 : Int32) [(.ref e1), .null, .null, .null, .null, .null, .null, .null, .null, .null] .null) ∧ (Ovr Z k "java/lang/Object") ∧ (t ≠ a1)
set_option maxRecDepth 65536 in
set_option maxHeartbeats 40000000 in
theorem rm14_0E (l : Launch) (Z : State) (a0 : Array Value) (hw : ∀ d ∈ tables_1, d.before a0 Z = true) (ws : List Jvm.Cond) (a1 : Addr) (e1 : Addr) (m1 : Int32) (wd : Addr) (kd : ClassId) (vd : List Value) (h0 : Heap) (n0 : Nat) (O0 : Old Z n0 h0) (LE : Exa Z h0 a1 "java/util/ArrayList") (LD : Fld Z h0 a1 "java/util/ArrayList" "elementData" "[Ljava/lang/Object;" (.ref wd)) (LS : Fld Z h0 a1 "java/util/ArrayList" "size" "I" (.int (0 : Int32))) (LM : Fld Z h0 a1 "java/util/AbstractList" "modCount" "I" (.int m1)) (g1 : n0 ≤ a1) (EE : Exa Z h0 e1 "com/example/fixlore/fixlore/lang/GraphBuilder$End") (SD : Sta Z Z.heap "java/util/ArrayList" "DEFAULTCAPACITY_EMPTY_ELEMENTDATA" "[Ljava/lang/Object;" (.ref wd)) (VD : Arv Z Z.heap wd kd (.object "java/lang/Object") (0 : Int32) vd .null) :
    MetFree l (⟨"java/util/ArrayList", "add", "(Ljava/lang/Object;)Z"⟩ : MethodName) (head1 (Jvm.Cond.code (⟨"java/util/ArrayList", "add", "(Ljava/lang/Object;)Z"⟩ : MethodName) jdk_38_method_25_code 2 (some .boolean) :: ws) ({ frames := 4, cells := 1, slots := 10, locals := 56 } : Room)) (fun a U => a = #[(.ref a1), (.ref e1)] ∧ Z.Warmed39 U.vm ∧ U.heap = h0) (fun _ _ _ _ _ => True) (fun _ U o U' => ∃ v L, o = .returned v ∧ Q_rm14_0E Z a1 e1 m1 wd kd vd h0 n0 v U'.heap L ∧ FrameEnd U o U' L ({ frames := 4, cells := 1, slots := 10, locals := 56 } : Room).cells ({ frames := 4, cells := 1, slots := 10, locals := 56 } : Room).slots) := by
  refine MetFree.of_bodySF (plainFor_of_name pn_2) hisR ?_
  intro p e s m args below meth c s₁ Bd hml0 hP hK
  obtain ⟨rfl, hZ, hh⟩ := hP
  have hx := Bd.exec
  have hby := Bd.bytes
  have hml : c.maxLocals = 2 := hml0
  have hown : s.vm.findClass "java/util/ArrayList" = some m.cls := findClass_of_methodNamed Bd.named
  have hnm := (name_of_methodNamed Bd.named Bd.method).1
  have X0 : Stand p l e ({ frames := 4, cells := 1, slots := 10, locals := 56 } : Room) s m #[(.ref a1), (.ref e1)] below meth c s₁ [] 0 0 := Stand.of_body Bd
  have e0 : s₁.heap = h0 := by rw [← hh, Bd.state]; rfl
  have N0 := Fr.nil n0
  have Z0 : n0 ≤ h0.size := old_le O0
  have pre0 : ∀ t, Steps p.tables e below (s₁.setTop (mkF m 0 #[.val (.ref a1), .val (.ref e1)] [])) t → Steps p.tables e below (s₁.setTop (entryFrame m #[(.ref a1), (.ref e1)] 2)) t := fun t k => castTop (ef_rm14_0E m a1 e1) k
  obtain ⟨T101, X101, e101, st101⟩ := getF X0 hx hZ hown (host := "") (Or.inl (hwk hw 157 rfl)) (Via.of (hwk hw 158 rfl)) e0 LM (g := (mkF m 2 #[.val (.ref a1), .val (.ref e1)] [(.ref a1), (.ref a1)])) rfl rfl (hb hby d14_2)
  obtain ⟨T102, h102, X102, e102, W102, st102⟩ := putF X101 hx hZ hown (host := "") (Or.inl (hwk hw 157 rfl)) (Via.of (hwk hw 158 rfl)) e101 LM LE (Or.inl (hwk hw 29 rfl)) (hwk hw 10 rfl) (ty := .int) (by decide) rfl rfl (g := (mkF m 7 #[.val (.ref a1), .val (.ref e1)] [(.int (m1 + (1 : Int32))), (.ref a1)])) rfl rfl (hb hby d14_7)
  have F102 : Fld Z h102 a1 "java/util/AbstractList" "modCount" "I" (.int (m1 + (1 : Int32))) := Fld.same W102 LM
  have N102 := Fr.snoc X102 N0 g1
  have c103 : Fld Z h102 a1 "java/util/ArrayList" "elementData" "[Ljava/lang/Object;" (.ref wd) := (Fld.other W102 LD (Or.inr (slot_ne (Or.inl (hwk hw 32 rfl)) (Or.inl (hwk hw 29 rfl)) (by decide) (t := (.array (.object "java/lang/Object"))) (t' := .int) (by decide) (by decide))))
  obtain ⟨T104, X104, e104, st104⟩ := getF X102 hx hZ hown (host := "") (Or.inl (hwk hw 31 rfl)) Via.refl e102 c103 (g := (mkF m 13 #[.val (.ref a1), .val (.ref e1)] [(.ref a1), (.ref e1), (.ref a1)])) rfl rfl (hb hby d14_13)
  have c105 : Fld Z h102 a1 "java/util/ArrayList" "size" "I" (.int (0 : Int32)) := (Fld.other W102 LS (Or.inr (slot_ne (Or.inl (hwk hw 160 rfl)) (Or.inl (hwk hw 29 rfl)) (by decide) (t := .int) (t' := .int) (by decide) (by decide))))
  obtain ⟨T106, X106, e106, st106⟩ := getF X104 hx hZ hown (host := "") (Or.inl (hwk hw 159 rfl)) Via.refl e104 c105 (g := (mkF m 17 #[.val (.ref a1), .val (.ref e1)] [(.ref a1), (.ref wd), (.ref e1), (.ref a1)])) rfl rfl (hb hby d14_17)
  have c107 : Exa Z h102 a1 "java/util/ArrayList" := (Exa.wr W102 LE)
  have c108 : Exa Z h102 e1 "com/example/fixlore/fixlore/lang/GraphBuilder$End" := (Exa.wr W102 EE)
  have O109 : Old Z n0 h102 := Old.wr O0 W102 g1
  obtain ⟨cq110, q110, q110'⟩ := (c107).cell
  obtain ⟨_, _, ⟨T110, L110, k110, n110⟩, -, X110, ⟨Lc110, hQ110, l110, y110, z110⟩, st110⟩ := X106.privateBack hx (y := (⟨"java/util/ArrayList", "add", "(Ljava/lang/Object;[Ljava/lang/Object;I)V"⟩ : MethodName)) hown (mvT hZ (hwk hw 161 rfl)) (mvT hZ (hwk hw 162 rfl)) (mvT hZ (hwk hw 164 rfl)) (Cond.privateMethod_at (mvP hZ (hwk hw 163 rfl) (args := #[]))) (mvT hZ (hwk hw 165 rfl)) (by decide) (backOf (W := 0) (rm15_0E l Z a0 hw [] a1 e1 (m1 + (1 : Int32)) wd kd vd h102 n0 O109 c107 c103 c105 F102 g1 c108 SD VD) hZ (hwk hw 165 rfl) (hwk hw 11 rfl) (by decide) (by decide)) (g := (mkF m 20 #[.val (.ref a1), .val (.ref e1)] [(.int (0 : Int32)), (.ref wd), (.ref e1), (.ref a1)])) rfl (by rw [hml]; rfl) (Steps.refl _) (a := a1) (by rw [e106]; exact q110) q110' (argsL := [(.ref e1), (.ref wd), (.int (0 : Int32))]) (rest := []) (lenOf pd_4 rfl) rfl (by show 2 * 0 + _ ≤ _; exact Nat.le_of_eq rfl) (hb hby d14_20) (fun _ _ => ⟨rfl, e106, (by decide : 0 + 1 ≤ _), (by decide : 0 + 10 ≤ _)⟩)
  dsimp only [Pt.U, Pt.locs, Pt.cells, Pt.slots] at X110 l110 y110 z110 st110 hQ110
  subst l110 y110 z110
  unfold Q_rm15_0E at hQ110
  obtain ⟨t_110, k_110, rfl, N110q, K110, ge_t_110, f110_0, f110_1, f110_2, f110_3, f110_4, f110_5, f110_6⟩ := hQ110
  have N110 := Fr.app N102 N110q
  have g_t_110 : n0 ≤ t_110 := Nat.le_trans (old_le O109) ge_t_110
  have K111 : Keep h0 h102 [a1] := Keep.wr (Keep.refl h0 [a1]) W102 (Or.inl (List.mem_of_getElem? (i := 0) rfl))
  have K112 : Keep h0 T110.heap [a1] := Keep.trans K111 K110 (allS (Or.inl (List.mem_of_getElem? (i := 0) rfl)) all0)
  obtain ⟨fs, hr, hrun, hended, hW, hsame⟩ := X110.leave (v := some (.int (1 : Int32))) (fun h => by rw [Bd.returns] at h; cases h)
  refine ⟨_, _, pre0 _ ?_, hrun, hended, _, _, rfl, ?_, ⟨_, rfl⟩, hW, hsame.mono (by decide) (by decide)⟩
  · show Steps p.tables e below (s₁.setTop (mkF m 0 #[.val (.ref a1), .val (.ref e1)] [])) _
    refine XS.aloadN X0.here hx rfl (hb hby d14_0) rfl rfl ?_
    refine XS.dup X0.here hx rfl (hb hby d14_1) rfl rfl ?_
    show Steps p.tables e below (s₁.setTop (mkF m 2 #[.val (.ref a1), .val (.ref e1)] [(.ref a1), (.ref a1)])) _
    refine st101 _ ?_
    show Steps p.tables e below (T101.setTop (mkF m 5 #[.val (.ref a1), .val (.ref e1)] [(.int m1), (.ref a1)])) _
    refine XS.iconst X101.here hx rfl (hb hby d14_5) ?_
    refine XS.iadd X101.here hx rfl (hb hby d14_6) rfl ?_
    show Steps p.tables e below (T101.setTop (mkF m 7 #[.val (.ref a1), .val (.ref e1)] [(.int (m1 + (1 : Int32))), (.ref a1)])) _
    refine st102 _ ?_
    show Steps p.tables e below (T102.setTop (mkF m 10 #[.val (.ref a1), .val (.ref e1)] [])) _
    refine XS.aloadN X102.here hx rfl (hb hby d14_10) rfl rfl ?_
    refine XS.aloadN X102.here hx rfl (hb hby d14_11) rfl rfl ?_
    refine XS.aloadN X102.here hx rfl (hb hby d14_12) rfl rfl ?_
    show Steps p.tables e below (T102.setTop (mkF m 13 #[.val (.ref a1), .val (.ref e1)] [(.ref a1), (.ref e1), (.ref a1)])) _
    refine st104 _ ?_
    show Steps p.tables e below (T104.setTop (mkF m 16 #[.val (.ref a1), .val (.ref e1)] [(.ref wd), (.ref e1), (.ref a1)])) _
    refine XS.aloadN X104.here hx rfl (hb hby d14_16) rfl rfl ?_
    show Steps p.tables e below (T104.setTop (mkF m 17 #[.val (.ref a1), .val (.ref e1)] [(.ref a1), (.ref wd), (.ref e1), (.ref a1)])) _
    refine st106 _ ?_
    show Steps p.tables e below (T106.setTop (mkF m 20 #[.val (.ref a1), .val (.ref e1)] [(.int (0 : Int32)), (.ref wd), (.ref e1), (.ref a1)])) _
    refine st110.trans ?_
    show Steps p.tables e below (T110.setTop (mkF m 23 #[.val (.ref a1), .val (.ref e1)] [])) _
    refine XS.iconst X110.here hx rfl (hb hby d14_23) ?_
    show Steps p.tables e below (T110.setTop (mkF m 24 #[.val (.ref a1), .val (.ref e1)] [(.int (1 : Int32))])) _
    exact Jvm.RoadKit.retOut X110 hx Bd.returns rfl (Or.inl ⟨rfl, by simp, _, rfl⟩) (hb hby d14_24) hr
  · show Q_rm14_0E Z a1 e1 m1 wd kd vd h0 n0 _ T110.heap _
    unfold Q_rm14_0E
    exact ⟨t_110, k_110, rfl, N110, K112, (Nat.le_trans (Nat.le_trans (Nat.le_refl _) (Nat.le_of_eq W102.size.symm)) ge_t_110), f110_0, f110_1, f110_2, f110_3, f110_4, f110_5, f110_6⟩
theorem ef_rm15_1E (m : MethodId) (x0 : Addr) (x1 : Addr) (x2 : Addr) (x3 : Int32) : entryFrame m #[(.ref x0), (.ref x1), (.ref x2), (.int x3)] 4 = mkF m 0 #[.val (.ref x0), .val (.ref x1), .val (.ref x2), .val (.int x3)] [] := by first | (simp [entryFrame, mkF, argsToLocals, Value.category]; done) | rfl
def Q_rm15_1E (Z : State) (a1 : Addr) (e1 : Addr) (x0 : Addr) (m1 : Int32) (t1 : Addr) (k1 : ClassId) (h0 : Heap) (n0 : Nat) (v : Option Value) (h : Heap) (L : List Loc) : Prop := (v = none) ∧ (Fr n0 L) ∧ (Keep h0 h [a1, t1]) ∧ (Exa Z h a1 "java/util/ArrayList") ∧ (Fld Z h a1 "java/util/ArrayList" "elementData" "[Ljava/lang/Object;" (.ref t1)) ∧ (Fld Z h a1 "java/util/ArrayList" "size" "I" (.int (2 : Int32))) ∧ (Fld Z h a1 "java/util/AbstractList" "modCount" "I" (.int m1)) ∧ (Arv Z h t1 k1 (.object "java/lang/Object") (10 : Int32) [(.ref x0), (.ref e1), .null, .null, .null, .null, .null, .null, .null, .null] .null) ∧ (Ovr Z k1 "java/lang/Object")
set_option maxRecDepth 65536 in
set_option maxHeartbeats 40000000 in
theorem rm15_1E (l : Launch) (Z : State) (a0 : Array Value) (hw : ∀ d ∈ tables_1, d.before a0 Z = true) (ws : List Jvm.Cond) (a1 : Addr) (e1 : Addr) (x0 : Addr) (m1 : Int32) (t1 : Addr) (k1 : ClassId) (h0 : Heap) (n0 : Nat) (O0 : Old Z n0 h0) (LE : Exa Z h0 a1 "java/util/ArrayList") (LD : Fld Z h0 a1 "java/util/ArrayList" "elementData" "[Ljava/lang/Object;" (.ref t1)) (LS : Fld Z h0 a1 "java/util/ArrayList" "size" "I" (.int (1 : Int32))) (LM : Fld Z h0 a1 "java/util/AbstractList" "modCount" "I" (.int m1)) (LV : Arv Z h0 t1 k1 (.object "java/lang/Object") (10 : Int32) [(.ref x0), .null, .null, .null, .null, .null, .null, .null, .null, .null] .null) (LO : Ovr Z k1 "java/lang/Object") (g1 : n0 ≤ a1) (EE : Exa Z h0 e1 "com/example/fixlore/fixlore/lang/GraphBuilder$End") (gt : n0 ≤ t1) (nt : t1 ≠ a1) :
    MetFree l (⟨"java/util/ArrayList", "add", "(Ljava/lang/Object;[Ljava/lang/Object;I)V"⟩ : MethodName) (head1 (Jvm.Cond.code (⟨"java/util/ArrayList", "add", "(Ljava/lang/Object;[Ljava/lang/Object;I)V"⟩ : MethodName) jdk_38_method_24_code 4 none :: ws) ({ frames := 0, cells := 0, slots := 0, locals := 0 } : Room)) (fun a U => a = #[(.ref a1), (.ref e1), (.ref t1), (.int (1 : Int32))] ∧ Z.Warmed39 U.vm ∧ U.heap = h0) (fun _ _ _ _ _ => True) (fun _ U o U' => ∃ v L, o = .returned v ∧ Q_rm15_1E Z a1 e1 x0 m1 t1 k1 h0 n0 v U'.heap L ∧ FrameEnd U o U' L ({ frames := 0, cells := 0, slots := 0, locals := 0 } : Room).cells ({ frames := 0, cells := 0, slots := 0, locals := 0 } : Room).slots) := by
  refine MetFree.of_bodySF (plainFor_of_name pn_2) hisR ?_
  intro p e s m args below meth c s₁ Bd hml0 hP hK
  obtain ⟨rfl, hZ, hh⟩ := hP
  have hx := Bd.exec
  have hby := Bd.bytes
  have hml : c.maxLocals = 4 := hml0
  have hown : s.vm.findClass "java/util/ArrayList" = some m.cls := findClass_of_methodNamed Bd.named
  have hnm := (name_of_methodNamed Bd.named Bd.method).1
  have X0 : Stand p l e ({ frames := 0, cells := 0, slots := 0, locals := 0 } : Room) s m #[(.ref a1), (.ref e1), (.ref t1), (.int (1 : Int32))] below meth c s₁ [] 0 0 := Stand.of_body Bd
  have e0 : s₁.heap = h0 := by rw [← hh, Bd.state]; rfl
  have N0 := Fr.nil n0
  have Z0 : n0 ≤ h0.size := old_le O0
  have pre0 : ∀ t, Steps p.tables e below (s₁.setTop (mkF m 0 #[.val (.ref a1), .val (.ref e1), .val (.ref t1), .val (.int (1 : Int32))] [])) t → Steps p.tables e below (s₁.setTop (entryFrame m #[(.ref a1), (.ref e1), (.ref t1), (.int (1 : Int32))] 4)) t := fun t k => castTop (ef_rm15_1E m a1 e1 t1 (1 : Int32)) k
  obtain ⟨cl101, Ar101, -, Sz101, Nn101, -, -⟩ := id LV
  obtain ⟨clq102, Arq102, kqq102, Szq102, Nnq102, Hsq102, Gsq102⟩ := id LV
  have hinq102 : ¬ ((1 : Int32) < 0 ∨ clq102.slots.size ≤ ((1 : Int32)).toNatClampNeg) := inb_of Szq102 ⟨by decide, by decide⟩
  obtain ⟨T103, h103, X103, e103, W103, st103⟩ := stR X0 hx hZ e0 Arq102 (j := (1 : Int32)) hinq102 rfl (Sto.ofV Arq102 kqq102 LO (Ins.of_exa EE (hwk hw 221 rfl))) (g := (mkF m 14 #[.val (.ref a1), .val (.ref e1), .val (.ref t1), .val (.int (1 : Int32))] [(.ref e1), (.int (1 : Int32)), (.ref t1)])) rfl rfl (hb hby d15_14)
  have V103 : Arv Z h103 t1 k1 (.object "java/lang/Object") (10 : Int32) [(.ref x0), (.ref e1), .null, .null, .null, .null, .null, .null, .null, .null] .null := Arv.set Arq102 kqq102 Szq102 Nnq102 Hsq102 Gsq102 rfl W103 1 rfl (Nat.le_of_ble_eq_true rfl)
  have N103 := Fr.snoc X103 N0 gt
  have c104 : Exa Z h103 a1 "java/util/ArrayList" := (Exa.wr W103 LE)
  have c105 : Fld Z h103 a1 "java/util/ArrayList" "size" "I" (.int (1 : Int32)) := (Fld.other W103 LS (Or.inl (Ne.symm nt)))
  obtain ⟨T106, h106, X106, e106, W106, st106⟩ := putF X103 hx hZ hown (host := "") (Or.inl (hwk hw 159 rfl)) Via.refl e103 c105 c104 (Or.inl (hwk hw 160 rfl)) (hwk hw 10 rfl) (ty := .int) (by decide) rfl rfl (g := (mkF m 19 #[.val (.ref a1), .val (.ref e1), .val (.ref t1), .val (.int (1 : Int32))] [(.int (2 : Int32)), (.ref a1)])) rfl rfl (hb hby d15_19)
  have F106 : Fld Z h106 a1 "java/util/ArrayList" "size" "I" (.int (2 : Int32)) := Fld.same W106 c105
  have N106 := Fr.snoc X106 N103 g1
  have K107 : Keep h0 h103 [a1, t1] := Keep.wr (Keep.refl h0 [a1, t1]) W103 (Or.inl (List.mem_of_getElem? (i := 1) rfl))
  have K108 : Keep h0 h106 [a1, t1] := Keep.wr K107 W106 (Or.inl (List.mem_of_getElem? (i := 0) rfl))
  have c109 : Exa Z h106 a1 "java/util/ArrayList" := (Exa.wr W106 c104)
  have c110 : Fld Z h106 a1 "java/util/ArrayList" "elementData" "[Ljava/lang/Object;" (.ref t1) := (Fld.other W106 (Fld.other W103 LD (Or.inl (Ne.symm nt))) (Or.inr (slot_ne (Or.inl (hwk hw 32 rfl)) (Or.inl (hwk hw 160 rfl)) (by decide) (t := (.array (.object "java/lang/Object"))) (t' := .int) (by decide) (by decide))))
  have c111 : Fld Z h106 a1 "java/util/AbstractList" "modCount" "I" (.int m1) := (Fld.other W106 (Fld.other W103 LM (Or.inl (Ne.symm nt))) (Or.inr (slot_ne (Or.inl (hwk hw 29 rfl)) (Or.inl (hwk hw 160 rfl)) (by decide) (t := .int) (t' := .int) (by decide) (by decide))))
  have c112 : Arv Z h106 t1 k1 (.object "java/lang/Object") (10 : Int32) [(.ref x0), (.ref e1), .null, .null, .null, .null, .null, .null, .null, .null] .null := (Arv.other V103 W106 nt)
  obtain ⟨fs, hr, hrun, hended, hW, hsame⟩ := X106.leave (v := none) (fun _ => rfl)
  refine ⟨_, _, pre0 _ ?_, hrun, hended, _, _, rfl, ?_, ⟨_, rfl⟩, hW, hsame.mono (by decide) (by decide)⟩
  · show Steps p.tables e below (s₁.setTop (mkF m 0 #[.val (.ref a1), .val (.ref e1), .val (.ref t1), .val (.int (1 : Int32))] [])) _
    refine XS.iloadN X0.here hx rfl (hb hby d15_0) rfl ?_
    refine XS.aloadN X0.here hx rfl (hb hby d15_1) rfl rfl ?_
    show Steps p.tables e below (s₁.setTop (mkF m 2 #[.val (.ref a1), .val (.ref e1), .val (.ref t1), .val (.int (1 : Int32))] [(.ref t1), (.int (1 : Int32))])) _
    refine X0.arraylength hx (by rw [e0]; exact Ar101.1) (State.isArrayOf_alike hZ.alike Ar101.2.1) (g := (mkF m 2 #[.val (.ref a1), .val (.ref e1), .val (.ref t1), .val (.int (1 : Int32))] [(.ref t1), (.int (1 : Int32))])) rfl rfl (hb hby d15_2) _ ?_
    rw [len_of Sz101 Nn101]
    show Steps p.tables e below (s₁.setTop (mkF m 3 #[.val (.ref a1), .val (.ref e1), .val (.ref t1), .val (.int (1 : Int32))] [(.int (10 : Int32)), (.int (1 : Int32))])) _
    refine XS.icmpYes X0.here hx rfl (pc0 := 3) (pc' := 11) rfl (hb hby d15_3) rfl (feq (by decide : ¬ ((1 : Int32) = (10 : Int32)))).2 (by decide) (by decide) ?_
    show Steps p.tables e below (s₁.setTop (mkF m 11 #[.val (.ref a1), .val (.ref e1), .val (.ref t1), .val (.int (1 : Int32))] [])) _
    refine XS.aloadN X0.here hx rfl (hb hby d15_11) rfl rfl ?_
    refine XS.iloadN X0.here hx rfl (hb hby d15_12) rfl ?_
    refine XS.aloadN X0.here hx rfl (hb hby d15_13) rfl rfl ?_
    show Steps p.tables e below (s₁.setTop (mkF m 14 #[.val (.ref a1), .val (.ref e1), .val (.ref t1), .val (.int (1 : Int32))] [(.ref e1), (.int (1 : Int32)), (.ref t1)])) _
    refine st103 _ ?_
    show Steps p.tables e below (T103.setTop (mkF m 15 #[.val (.ref a1), .val (.ref e1), .val (.ref t1), .val (.int (1 : Int32))] [])) _
    refine XS.aloadN X103.here hx rfl (hb hby d15_15) rfl rfl ?_
    refine XS.iloadN X103.here hx rfl (hb hby d15_16) rfl ?_
    refine XS.iconst X103.here hx rfl (hb hby d15_17) ?_
    refine XS.iadd X103.here hx rfl (hb hby d15_18) rfl ?_
    show Steps p.tables e below (T103.setTop (mkF m 19 #[.val (.ref a1), .val (.ref e1), .val (.ref t1), .val (.int (1 : Int32))] [(.int ((1 : Int32) + (1 : Int32))), (.ref a1)])) _
    rw [show ((1 : Int32) + (1 : Int32)) = (2 : Int32) from by decide]
    show Steps p.tables e below (T103.setTop (mkF m 19 #[.val (.ref a1), .val (.ref e1), .val (.ref t1), .val (.int (1 : Int32))] [(.int (2 : Int32)), (.ref a1)])) _
    refine st106 _ ?_
    show Steps p.tables e below (T106.setTop (mkF m 22 #[.val (.ref a1), .val (.ref e1), .val (.ref t1), .val (.int (1 : Int32))] [])) _
    exact X106.returnOut hx Bd.returns (hb hby d15_22) hr
  · show Q_rm15_1E Z a1 e1 x0 m1 t1 k1 h0 n0 _ T106.heap _
    rw [e106]
    unfold Q_rm15_1E
    exact ⟨rfl, N106, K108, c109, c110, F106, c111, c112, LO⟩
theorem ef_rm14_1E (m : MethodId) (x0 : Addr) (x1 : Addr) : entryFrame m #[(.ref x0), (.ref x1)] 2 = mkF m 0 #[.val (.ref x0), .val (.ref x1)] [] := by first | (simp [entryFrame, mkF, argsToLocals, Value.category]; done) | rfl
def Q_rm14_1E (Z : State) (a1 : Addr) (e1 : Addr) (x0 : Addr) (m1 : Int32) (t1 : Addr) (k1 : ClassId) (h0 : Heap) (n0 : Nat) (v : Option Value) (h : Heap) (L : List Loc) : Prop := (v = some (.int (1 : Int32))) ∧ (Fr n0 L) ∧ (Keep h0 h [a1, t1]) ∧ (Exa Z h a1 "java/util/ArrayList") ∧ (Fld Z h a1 "java/util/ArrayList" "elementData" "[Ljava/lang/Object;" (.ref t1)) ∧ (Fld Z h a1 "java/util/ArrayList" "size" "I" (.int (2 : Int32))) ∧ (Fld Z h a1 "java/util/AbstractList" "modCount" "I" (.int (m1 + (1 : Int32)))) ∧ (Arv Z h t1 k1 (.object "java/lang/Object") (10 : Int32) [(.ref x0), (.ref e1), .null, .null, .null, .null, .null, .null, .null, .null] .null) ∧ (Ovr Z k1 "java/lang/Object")
set_option maxRecDepth 65536 in
set_option maxHeartbeats 40000000 in
theorem rm14_1E (l : Launch) (Z : State) (a0 : Array Value) (hw : ∀ d ∈ tables_1, d.before a0 Z = true) (ws : List Jvm.Cond) (a1 : Addr) (e1 : Addr) (x0 : Addr) (m1 : Int32) (t1 : Addr) (k1 : ClassId) (h0 : Heap) (n0 : Nat) (O0 : Old Z n0 h0) (LE : Exa Z h0 a1 "java/util/ArrayList") (LD : Fld Z h0 a1 "java/util/ArrayList" "elementData" "[Ljava/lang/Object;" (.ref t1)) (LS : Fld Z h0 a1 "java/util/ArrayList" "size" "I" (.int (1 : Int32))) (LM : Fld Z h0 a1 "java/util/AbstractList" "modCount" "I" (.int m1)) (LV : Arv Z h0 t1 k1 (.object "java/lang/Object") (10 : Int32) [(.ref x0), .null, .null, .null, .null, .null, .null, .null, .null, .null] .null) (LO : Ovr Z k1 "java/lang/Object") (g1 : n0 ≤ a1) (EE : Exa Z h0 e1 "com/example/fixlore/fixlore/lang/GraphBuilder$End") (gt : n0 ≤ t1) (nt : t1 ≠ a1) :
    MetFree l (⟨"java/util/ArrayList", "add", "(Ljava/lang/Object;)Z"⟩ : MethodName) (head1 (Jvm.Cond.code (⟨"java/util/ArrayList", "add", "(Ljava/lang/Object;)Z"⟩ : MethodName) jdk_38_method_25_code 2 (some .boolean) :: ws) ({ frames := 1, cells := 0, slots := 0, locals := 15 } : Room)) (fun a U => a = #[(.ref a1), (.ref e1)] ∧ Z.Warmed39 U.vm ∧ U.heap = h0) (fun _ _ _ _ _ => True) (fun _ U o U' => ∃ v L, o = .returned v ∧ Q_rm14_1E Z a1 e1 x0 m1 t1 k1 h0 n0 v U'.heap L ∧ FrameEnd U o U' L ({ frames := 1, cells := 0, slots := 0, locals := 15 } : Room).cells ({ frames := 1, cells := 0, slots := 0, locals := 15 } : Room).slots) := by
  refine MetFree.of_bodySF (plainFor_of_name pn_2) hisR ?_
  intro p e s m args below meth c s₁ Bd hml0 hP hK
  obtain ⟨rfl, hZ, hh⟩ := hP
  have hx := Bd.exec
  have hby := Bd.bytes
  have hml : c.maxLocals = 2 := hml0
  have hown : s.vm.findClass "java/util/ArrayList" = some m.cls := findClass_of_methodNamed Bd.named
  have hnm := (name_of_methodNamed Bd.named Bd.method).1
  have X0 : Stand p l e ({ frames := 1, cells := 0, slots := 0, locals := 15 } : Room) s m #[(.ref a1), (.ref e1)] below meth c s₁ [] 0 0 := Stand.of_body Bd
  have e0 : s₁.heap = h0 := by rw [← hh, Bd.state]; rfl
  have N0 := Fr.nil n0
  have Z0 : n0 ≤ h0.size := old_le O0
  have pre0 : ∀ t, Steps p.tables e below (s₁.setTop (mkF m 0 #[.val (.ref a1), .val (.ref e1)] [])) t → Steps p.tables e below (s₁.setTop (entryFrame m #[(.ref a1), (.ref e1)] 2)) t := fun t k => castTop (ef_rm14_1E m a1 e1) k
  obtain ⟨T101, X101, e101, st101⟩ := getF X0 hx hZ hown (host := "") (Or.inl (hwk hw 157 rfl)) (Via.of (hwk hw 158 rfl)) e0 LM (g := (mkF m 2 #[.val (.ref a1), .val (.ref e1)] [(.ref a1), (.ref a1)])) rfl rfl (hb hby d14_2)
  obtain ⟨T102, h102, X102, e102, W102, st102⟩ := putF X101 hx hZ hown (host := "") (Or.inl (hwk hw 157 rfl)) (Via.of (hwk hw 158 rfl)) e101 LM LE (Or.inl (hwk hw 29 rfl)) (hwk hw 10 rfl) (ty := .int) (by decide) rfl rfl (g := (mkF m 7 #[.val (.ref a1), .val (.ref e1)] [(.int (m1 + (1 : Int32))), (.ref a1)])) rfl rfl (hb hby d14_7)
  have F102 : Fld Z h102 a1 "java/util/AbstractList" "modCount" "I" (.int (m1 + (1 : Int32))) := Fld.same W102 LM
  have N102 := Fr.snoc X102 N0 g1
  have c103 : Fld Z h102 a1 "java/util/ArrayList" "elementData" "[Ljava/lang/Object;" (.ref t1) := (Fld.other W102 LD (Or.inr (slot_ne (Or.inl (hwk hw 32 rfl)) (Or.inl (hwk hw 29 rfl)) (by decide) (t := (.array (.object "java/lang/Object"))) (t' := .int) (by decide) (by decide))))
  obtain ⟨T104, X104, e104, st104⟩ := getF X102 hx hZ hown (host := "") (Or.inl (hwk hw 31 rfl)) Via.refl e102 c103 (g := (mkF m 13 #[.val (.ref a1), .val (.ref e1)] [(.ref a1), (.ref e1), (.ref a1)])) rfl rfl (hb hby d14_13)
  have c105 : Fld Z h102 a1 "java/util/ArrayList" "size" "I" (.int (1 : Int32)) := (Fld.other W102 LS (Or.inr (slot_ne (Or.inl (hwk hw 160 rfl)) (Or.inl (hwk hw 29 rfl)) (by decide) (t := .int) (t' := .int) (by decide) (by decide))))
  obtain ⟨T106, X106, e106, st106⟩ := getF X104 hx hZ hown (host := "") (Or.inl (hwk hw 159 rfl)) Via.refl e104 c105 (g := (mkF m 17 #[.val (.ref a1), .val (.ref e1)] [(.ref a1), (.ref t1), (.ref e1), (.ref a1)])) rfl rfl (hb hby d14_17)
  have c107 : Exa Z h102 a1 "java/util/ArrayList" := (Exa.wr W102 LE)
  have c108 : Arv Z h102 t1 k1 (.object "java/lang/Object") (10 : Int32) [(.ref x0), .null, .null, .null, .null, .null, .null, .null, .null, .null] .null := (Arv.other LV W102 nt)
  have c109 : Exa Z h102 e1 "com/example/fixlore/fixlore/lang/GraphBuilder$End" := (Exa.wr W102 EE)
  have O110 : Old Z n0 h102 := Old.wr O0 W102 g1
  obtain ⟨cq111, q111, q111'⟩ := (c107).cell
  obtain ⟨_, _, ⟨T111, L111, k111, n111⟩, -, X111, ⟨Lc111, hQ111, l111, y111, z111⟩, st111⟩ := X106.privateBack hx (y := (⟨"java/util/ArrayList", "add", "(Ljava/lang/Object;[Ljava/lang/Object;I)V"⟩ : MethodName)) hown (mvT hZ (hwk hw 161 rfl)) (mvT hZ (hwk hw 162 rfl)) (mvT hZ (hwk hw 164 rfl)) (Cond.privateMethod_at (mvP hZ (hwk hw 163 rfl) (args := #[]))) (mvT hZ (hwk hw 165 rfl)) (by decide) (backOf (W := 0) (rm15_1E l Z a0 hw [] a1 e1 x0 (m1 + (1 : Int32)) t1 k1 h102 n0 O110 c107 c103 c105 F102 c108 LO g1 c109 gt nt) hZ (hwk hw 165 rfl) (hwk hw 11 rfl) (by decide) (by decide)) (g := (mkF m 20 #[.val (.ref a1), .val (.ref e1)] [(.int (1 : Int32)), (.ref t1), (.ref e1), (.ref a1)])) rfl (by rw [hml]; rfl) (Steps.refl _) (a := a1) (by rw [e106]; exact q111) q111' (argsL := [(.ref e1), (.ref t1), (.int (1 : Int32))]) (rest := []) (lenOf pd_4 rfl) rfl (by show 2 * 0 + _ ≤ _; exact Nat.le_of_eq rfl) (hb hby d14_20) (fun _ _ => ⟨rfl, e106, (by decide : 0 + 0 ≤ _), (by decide : 0 + 0 ≤ _)⟩)
  dsimp only [Pt.U, Pt.locs, Pt.cells, Pt.slots] at X111 l111 y111 z111 st111 hQ111
  subst l111 y111 z111
  unfold Q_rm15_1E at hQ111
  obtain ⟨rfl, N111q, K111, f111_0, f111_1, f111_2, f111_3, f111_4, f111_5⟩ := hQ111
  have N111 := Fr.app N102 N111q
  have K112 : Keep h0 h102 [a1, t1] := Keep.wr (Keep.refl h0 [a1, t1]) W102 (Or.inl (List.mem_of_getElem? (i := 0) rfl))
  have K113 : Keep h0 T111.heap [a1, t1] := Keep.trans K112 K111 (allS (Or.inl (List.mem_of_getElem? (i := 0) rfl)) (allS (Or.inl (List.mem_of_getElem? (i := 1) rfl)) all0))
  obtain ⟨fs, hr, hrun, hended, hW, hsame⟩ := X111.leave (v := some (.int (1 : Int32))) (fun h => by rw [Bd.returns] at h; cases h)
  refine ⟨_, _, pre0 _ ?_, hrun, hended, _, _, rfl, ?_, ⟨_, rfl⟩, hW, hsame.mono (by decide) (by decide)⟩
  · show Steps p.tables e below (s₁.setTop (mkF m 0 #[.val (.ref a1), .val (.ref e1)] [])) _
    refine XS.aloadN X0.here hx rfl (hb hby d14_0) rfl rfl ?_
    refine XS.dup X0.here hx rfl (hb hby d14_1) rfl rfl ?_
    show Steps p.tables e below (s₁.setTop (mkF m 2 #[.val (.ref a1), .val (.ref e1)] [(.ref a1), (.ref a1)])) _
    refine st101 _ ?_
    show Steps p.tables e below (T101.setTop (mkF m 5 #[.val (.ref a1), .val (.ref e1)] [(.int m1), (.ref a1)])) _
    refine XS.iconst X101.here hx rfl (hb hby d14_5) ?_
    refine XS.iadd X101.here hx rfl (hb hby d14_6) rfl ?_
    show Steps p.tables e below (T101.setTop (mkF m 7 #[.val (.ref a1), .val (.ref e1)] [(.int (m1 + (1 : Int32))), (.ref a1)])) _
    refine st102 _ ?_
    show Steps p.tables e below (T102.setTop (mkF m 10 #[.val (.ref a1), .val (.ref e1)] [])) _
    refine XS.aloadN X102.here hx rfl (hb hby d14_10) rfl rfl ?_
    refine XS.aloadN X102.here hx rfl (hb hby d14_11) rfl rfl ?_
    refine XS.aloadN X102.here hx rfl (hb hby d14_12) rfl rfl ?_
    show Steps p.tables e below (T102.setTop (mkF m 13 #[.val (.ref a1), .val (.ref e1)] [(.ref a1), (.ref e1), (.ref a1)])) _
    refine st104 _ ?_
    show Steps p.tables e below (T104.setTop (mkF m 16 #[.val (.ref a1), .val (.ref e1)] [(.ref t1), (.ref e1), (.ref a1)])) _
    refine XS.aloadN X104.here hx rfl (hb hby d14_16) rfl rfl ?_
    show Steps p.tables e below (T104.setTop (mkF m 17 #[.val (.ref a1), .val (.ref e1)] [(.ref a1), (.ref t1), (.ref e1), (.ref a1)])) _
    refine st106 _ ?_
    show Steps p.tables e below (T106.setTop (mkF m 20 #[.val (.ref a1), .val (.ref e1)] [(.int (1 : Int32)), (.ref t1), (.ref e1), (.ref a1)])) _
    refine st111.trans ?_
    show Steps p.tables e below (T111.setTop (mkF m 23 #[.val (.ref a1), .val (.ref e1)] [])) _
    refine XS.iconst X111.here hx rfl (hb hby d14_23) ?_
    show Steps p.tables e below (T111.setTop (mkF m 24 #[.val (.ref a1), .val (.ref e1)] [(.int (1 : Int32))])) _
    exact Jvm.RoadKit.retOut X111 hx Bd.returns rfl (Or.inl ⟨rfl, by simp, _, rfl⟩) (hb hby d14_24) hr
  · show Q_rm14_1E Z a1 e1 x0 m1 t1 k1 h0 n0 _ T111.heap _
    unfold Q_rm14_1E
    exact ⟨rfl, N111, K113, f111_0, f111_1, f111_2, f111_3, f111_4, LO⟩
theorem ef_rm15_2E (m : MethodId) (x0 : Addr) (x1 : Addr) (x2 : Addr) (x3 : Int32) : entryFrame m #[(.ref x0), (.ref x1), (.ref x2), (.int x3)] 4 = mkF m 0 #[.val (.ref x0), .val (.ref x1), .val (.ref x2), .val (.int x3)] [] := by first | (simp [entryFrame, mkF, argsToLocals, Value.category]; done) | rfl
def Q_rm15_2E (Z : State) (a1 : Addr) (e1 : Addr) (x0 : Addr) (x1 : Addr) (m1 : Int32) (t1 : Addr) (k1 : ClassId) (h0 : Heap) (n0 : Nat) (v : Option Value) (h : Heap) (L : List Loc) : Prop := (v = none) ∧ (Fr n0 L) ∧ (Keep h0 h [a1, t1]) ∧ (Exa Z h a1 "java/util/ArrayList") ∧ (Fld Z h a1 "java/util/ArrayList" "elementData" "[Ljava/lang/Object;" (.ref t1)) ∧ (Fld Z h a1 "java/util/ArrayList" "size" "I" (.int (3 : Int32))) ∧ (Fld Z h a1 "java/util/AbstractList" "modCount" "I" (.int m1)) ∧ (Arv Z h t1 k1 (.object "java/lang/Object") (10 : Int32) [(.ref x0), (.ref x1), (.ref e1), .null, .null, .null, .null, .null, .null, .null] .null) ∧ (Ovr Z k1 "java/lang/Object")
set_option maxRecDepth 65536 in
set_option maxHeartbeats 40000000 in
theorem rm15_2E (l : Launch) (Z : State) (a0 : Array Value) (hw : ∀ d ∈ tables_1, d.before a0 Z = true) (ws : List Jvm.Cond) (a1 : Addr) (e1 : Addr) (x0 : Addr) (x1 : Addr) (m1 : Int32) (t1 : Addr) (k1 : ClassId) (h0 : Heap) (n0 : Nat) (O0 : Old Z n0 h0) (LE : Exa Z h0 a1 "java/util/ArrayList") (LD : Fld Z h0 a1 "java/util/ArrayList" "elementData" "[Ljava/lang/Object;" (.ref t1)) (LS : Fld Z h0 a1 "java/util/ArrayList" "size" "I" (.int (2 : Int32))) (LM : Fld Z h0 a1 "java/util/AbstractList" "modCount" "I" (.int m1)) (LV : Arv Z h0 t1 k1 (.object "java/lang/Object") (10 : Int32) [(.ref x0), (.ref x1), .null, .null, .null, .null, .null, .null, .null, .null] .null) (LO : Ovr Z k1 "java/lang/Object") (g1 : n0 ≤ a1) (EE : Exa Z h0 e1 "com/example/fixlore/fixlore/lang/GraphBuilder$End") (gt : n0 ≤ t1) (nt : t1 ≠ a1) :
    MetFree l (⟨"java/util/ArrayList", "add", "(Ljava/lang/Object;[Ljava/lang/Object;I)V"⟩ : MethodName) (head1 (Jvm.Cond.code (⟨"java/util/ArrayList", "add", "(Ljava/lang/Object;[Ljava/lang/Object;I)V"⟩ : MethodName) jdk_38_method_24_code 4 none :: ws) ({ frames := 0, cells := 0, slots := 0, locals := 0 } : Room)) (fun a U => a = #[(.ref a1), (.ref e1), (.ref t1), (.int (2 : Int32))] ∧ Z.Warmed39 U.vm ∧ U.heap = h0) (fun _ _ _ _ _ => True) (fun _ U o U' => ∃ v L, o = .returned v ∧ Q_rm15_2E Z a1 e1 x0 x1 m1 t1 k1 h0 n0 v U'.heap L ∧ FrameEnd U o U' L ({ frames := 0, cells := 0, slots := 0, locals := 0 } : Room).cells ({ frames := 0, cells := 0, slots := 0, locals := 0 } : Room).slots) := by
  refine MetFree.of_bodySF (plainFor_of_name pn_2) hisR ?_
  intro p e s m args below meth c s₁ Bd hml0 hP hK
  obtain ⟨rfl, hZ, hh⟩ := hP
  have hx := Bd.exec
  have hby := Bd.bytes
  have hml : c.maxLocals = 4 := hml0
  have hown : s.vm.findClass "java/util/ArrayList" = some m.cls := findClass_of_methodNamed Bd.named
  have hnm := (name_of_methodNamed Bd.named Bd.method).1
  have X0 : Stand p l e ({ frames := 0, cells := 0, slots := 0, locals := 0 } : Room) s m #[(.ref a1), (.ref e1), (.ref t1), (.int (2 : Int32))] below meth c s₁ [] 0 0 := Stand.of_body Bd
  have e0 : s₁.heap = h0 := by rw [← hh, Bd.state]; rfl
  have N0 := Fr.nil n0
  have Z0 : n0 ≤ h0.size := old_le O0
  have pre0 : ∀ t, Steps p.tables e below (s₁.setTop (mkF m 0 #[.val (.ref a1), .val (.ref e1), .val (.ref t1), .val (.int (2 : Int32))] [])) t → Steps p.tables e below (s₁.setTop (entryFrame m #[(.ref a1), (.ref e1), (.ref t1), (.int (2 : Int32))] 4)) t := fun t k => castTop (ef_rm15_2E m a1 e1 t1 (2 : Int32)) k
  obtain ⟨cl101, Ar101, -, Sz101, Nn101, -, -⟩ := id LV
  obtain ⟨clq102, Arq102, kqq102, Szq102, Nnq102, Hsq102, Gsq102⟩ := id LV
  have hinq102 : ¬ ((2 : Int32) < 0 ∨ clq102.slots.size ≤ ((2 : Int32)).toNatClampNeg) := inb_of Szq102 ⟨by decide, by decide⟩
  obtain ⟨T103, h103, X103, e103, W103, st103⟩ := stR X0 hx hZ e0 Arq102 (j := (2 : Int32)) hinq102 rfl (Sto.ofV Arq102 kqq102 LO (Ins.of_exa EE (hwk hw 221 rfl))) (g := (mkF m 14 #[.val (.ref a1), .val (.ref e1), .val (.ref t1), .val (.int (2 : Int32))] [(.ref e1), (.int (2 : Int32)), (.ref t1)])) rfl rfl (hb hby d15_14)
  have V103 : Arv Z h103 t1 k1 (.object "java/lang/Object") (10 : Int32) [(.ref x0), (.ref x1), (.ref e1), .null, .null, .null, .null, .null, .null, .null] .null := Arv.set Arq102 kqq102 Szq102 Nnq102 Hsq102 Gsq102 rfl W103 2 rfl (Nat.le_of_ble_eq_true rfl)
  have N103 := Fr.snoc X103 N0 gt
  have c104 : Exa Z h103 a1 "java/util/ArrayList" := (Exa.wr W103 LE)
  have c105 : Fld Z h103 a1 "java/util/ArrayList" "size" "I" (.int (2 : Int32)) := (Fld.other W103 LS (Or.inl (Ne.symm nt)))
  obtain ⟨T106, h106, X106, e106, W106, st106⟩ := putF X103 hx hZ hown (host := "") (Or.inl (hwk hw 159 rfl)) Via.refl e103 c105 c104 (Or.inl (hwk hw 160 rfl)) (hwk hw 10 rfl) (ty := .int) (by decide) rfl rfl (g := (mkF m 19 #[.val (.ref a1), .val (.ref e1), .val (.ref t1), .val (.int (2 : Int32))] [(.int (3 : Int32)), (.ref a1)])) rfl rfl (hb hby d15_19)
  have F106 : Fld Z h106 a1 "java/util/ArrayList" "size" "I" (.int (3 : Int32)) := Fld.same W106 c105
  have N106 := Fr.snoc X106 N103 g1
  have K107 : Keep h0 h103 [a1, t1] := Keep.wr (Keep.refl h0 [a1, t1]) W103 (Or.inl (List.mem_of_getElem? (i := 1) rfl))
  have K108 : Keep h0 h106 [a1, t1] := Keep.wr K107 W106 (Or.inl (List.mem_of_getElem? (i := 0) rfl))
  have c109 : Exa Z h106 a1 "java/util/ArrayList" := (Exa.wr W106 c104)
  have c110 : Fld Z h106 a1 "java/util/ArrayList" "elementData" "[Ljava/lang/Object;" (.ref t1) := (Fld.other W106 (Fld.other W103 LD (Or.inl (Ne.symm nt))) (Or.inr (slot_ne (Or.inl (hwk hw 32 rfl)) (Or.inl (hwk hw 160 rfl)) (by decide) (t := (.array (.object "java/lang/Object"))) (t' := .int) (by decide) (by decide))))
  have c111 : Fld Z h106 a1 "java/util/AbstractList" "modCount" "I" (.int m1) := (Fld.other W106 (Fld.other W103 LM (Or.inl (Ne.symm nt))) (Or.inr (slot_ne (Or.inl (hwk hw 29 rfl)) (Or.inl (hwk hw 160 rfl)) (by decide) (t := .int) (t' := .int) (by decide) (by decide))))
  have c112 : Arv Z h106 t1 k1 (.object "java/lang/Object") (10 : Int32) [(.ref x0), (.ref x1), (.ref e1), .null, .null, .null, .null, .null, .null, .null] .null := (Arv.other V103 W106 nt)
  obtain ⟨fs, hr, hrun, hended, hW, hsame⟩ := X106.leave (v := none) (fun _ => rfl)
  refine ⟨_, _, pre0 _ ?_, hrun, hended, _, _, rfl, ?_, ⟨_, rfl⟩, hW, hsame.mono (by decide) (by decide)⟩
  · show Steps p.tables e below (s₁.setTop (mkF m 0 #[.val (.ref a1), .val (.ref e1), .val (.ref t1), .val (.int (2 : Int32))] [])) _
    refine XS.iloadN X0.here hx rfl (hb hby d15_0) rfl ?_
    refine XS.aloadN X0.here hx rfl (hb hby d15_1) rfl rfl ?_
    show Steps p.tables e below (s₁.setTop (mkF m 2 #[.val (.ref a1), .val (.ref e1), .val (.ref t1), .val (.int (2 : Int32))] [(.ref t1), (.int (2 : Int32))])) _
    refine X0.arraylength hx (by rw [e0]; exact Ar101.1) (State.isArrayOf_alike hZ.alike Ar101.2.1) (g := (mkF m 2 #[.val (.ref a1), .val (.ref e1), .val (.ref t1), .val (.int (2 : Int32))] [(.ref t1), (.int (2 : Int32))])) rfl rfl (hb hby d15_2) _ ?_
    rw [len_of Sz101 Nn101]
    show Steps p.tables e below (s₁.setTop (mkF m 3 #[.val (.ref a1), .val (.ref e1), .val (.ref t1), .val (.int (2 : Int32))] [(.int (10 : Int32)), (.int (2 : Int32))])) _
    refine XS.icmpYes X0.here hx rfl (pc0 := 3) (pc' := 11) rfl (hb hby d15_3) rfl (feq (by decide : ¬ ((2 : Int32) = (10 : Int32)))).2 (by decide) (by decide) ?_
    show Steps p.tables e below (s₁.setTop (mkF m 11 #[.val (.ref a1), .val (.ref e1), .val (.ref t1), .val (.int (2 : Int32))] [])) _
    refine XS.aloadN X0.here hx rfl (hb hby d15_11) rfl rfl ?_
    refine XS.iloadN X0.here hx rfl (hb hby d15_12) rfl ?_
    refine XS.aloadN X0.here hx rfl (hb hby d15_13) rfl rfl ?_
    show Steps p.tables e below (s₁.setTop (mkF m 14 #[.val (.ref a1), .val (.ref e1), .val (.ref t1), .val (.int (2 : Int32))] [(.ref e1), (.int (2 : Int32)), (.ref t1)])) _
    refine st103 _ ?_
    show Steps p.tables e below (T103.setTop (mkF m 15 #[.val (.ref a1), .val (.ref e1), .val (.ref t1), .val (.int (2 : Int32))] [])) _
    refine XS.aloadN X103.here hx rfl (hb hby d15_15) rfl rfl ?_
    refine XS.iloadN X103.here hx rfl (hb hby d15_16) rfl ?_
    refine XS.iconst X103.here hx rfl (hb hby d15_17) ?_
    refine XS.iadd X103.here hx rfl (hb hby d15_18) rfl ?_
    show Steps p.tables e below (T103.setTop (mkF m 19 #[.val (.ref a1), .val (.ref e1), .val (.ref t1), .val (.int (2 : Int32))] [(.int ((2 : Int32) + (1 : Int32))), (.ref a1)])) _
    rw [show ((2 : Int32) + (1 : Int32)) = (3 : Int32) from by decide]
    show Steps p.tables e below (T103.setTop (mkF m 19 #[.val (.ref a1), .val (.ref e1), .val (.ref t1), .val (.int (2 : Int32))] [(.int (3 : Int32)), (.ref a1)])) _
    refine st106 _ ?_
    show Steps p.tables e below (T106.setTop (mkF m 22 #[.val (.ref a1), .val (.ref e1), .val (.ref t1), .val (.int (2 : Int32))] [])) _
    exact X106.returnOut hx Bd.returns (hb hby d15_22) hr
  · show Q_rm15_2E Z a1 e1 x0 x1 m1 t1 k1 h0 n0 _ T106.heap _
    rw [e106]
    unfold Q_rm15_2E
    exact ⟨rfl, N106, K108, c109, c110, F106, c111, c112, LO⟩
theorem ef_rm14_2E (m : MethodId) (x0 : Addr) (x1 : Addr) : entryFrame m #[(.ref x0), (.ref x1)] 2 = mkF m 0 #[.val (.ref x0), .val (.ref x1)] [] := by first | (simp [entryFrame, mkF, argsToLocals, Value.category]; done) | rfl
def Q_rm14_2E (Z : State) (a1 : Addr) (e1 : Addr) (x0 : Addr) (x1 : Addr) (m1 : Int32) (t1 : Addr) (k1 : ClassId) (h0 : Heap) (n0 : Nat) (v : Option Value) (h : Heap) (L : List Loc) : Prop := (v = some (.int (1 : Int32))) ∧ (Fr n0 L) ∧ (Keep h0 h [a1, t1]) ∧ (Exa Z h a1 "java/util/ArrayList") ∧ (Fld Z h a1 "java/util/ArrayList" "elementData" "[Ljava/lang/Object;" (.ref t1)) ∧ (Fld Z h a1 "java/util/ArrayList" "size" "I" (.int (3 : Int32))) ∧ (Fld Z h a1 "java/util/AbstractList" "modCount" "I" (.int (m1 + (1 : Int32)))) ∧ (Arv Z h t1 k1 (.object "java/lang/Object") (10 : Int32) [(.ref x0), (.ref x1), (.ref e1), .null, .null, .null, .null, .null, .null, .null] .null) ∧ (Ovr Z k1 "java/lang/Object")
set_option maxRecDepth 65536 in
set_option maxHeartbeats 40000000 in
theorem rm14_2E (l : Launch) (Z : State) (a0 : Array Value) (hw : ∀ d ∈ tables_1, d.before a0 Z = true) (ws : List Jvm.Cond) (a1 : Addr) (e1 : Addr) (x0 : Addr) (x1 : Addr) (m1 : Int32) (t1 : Addr) (k1 : ClassId) (h0 : Heap) (n0 : Nat) (O0 : Old Z n0 h0) (LE : Exa Z h0 a1 "java/util/ArrayList") (LD : Fld Z h0 a1 "java/util/ArrayList" "elementData" "[Ljava/lang/Object;" (.ref t1)) (LS : Fld Z h0 a1 "java/util/ArrayList" "size" "I" (.int (2 : Int32))) (LM : Fld Z h0 a1 "java/util/AbstractList" "modCount" "I" (.int m1)) (LV : Arv Z h0 t1 k1 (.object "java/lang/Object") (10 : Int32) [(.ref x0), (.ref x1), .null, .null, .null, .null, .null, .null, .null, .null] .null) (LO : Ovr Z k1 "java/lang/Object") (g1 : n0 ≤ a1) (EE : Exa Z h0 e1 "com/example/fixlore/fixlore/lang/GraphBuilder$End") (gt : n0 ≤ t1) (nt : t1 ≠ a1) :
    MetFree l (⟨"java/util/ArrayList", "add", "(Ljava/lang/Object;)Z"⟩ : MethodName) (head1 (Jvm.Cond.code (⟨"java/util/ArrayList", "add", "(Ljava/lang/Object;)Z"⟩ : MethodName) jdk_38_method_25_code 2 (some .boolean) :: ws) ({ frames := 1, cells := 0, slots := 0, locals := 15 } : Room)) (fun a U => a = #[(.ref a1), (.ref e1)] ∧ Z.Warmed39 U.vm ∧ U.heap = h0) (fun _ _ _ _ _ => True) (fun _ U o U' => ∃ v L, o = .returned v ∧ Q_rm14_2E Z a1 e1 x0 x1 m1 t1 k1 h0 n0 v U'.heap L ∧ FrameEnd U o U' L ({ frames := 1, cells := 0, slots := 0, locals := 15 } : Room).cells ({ frames := 1, cells := 0, slots := 0, locals := 15 } : Room).slots) := by
  refine MetFree.of_bodySF (plainFor_of_name pn_2) hisR ?_
  intro p e s m args below meth c s₁ Bd hml0 hP hK
  obtain ⟨rfl, hZ, hh⟩ := hP
  have hx := Bd.exec
  have hby := Bd.bytes
  have hml : c.maxLocals = 2 := hml0
  have hown : s.vm.findClass "java/util/ArrayList" = some m.cls := findClass_of_methodNamed Bd.named
  have hnm := (name_of_methodNamed Bd.named Bd.method).1
  have X0 : Stand p l e ({ frames := 1, cells := 0, slots := 0, locals := 15 } : Room) s m #[(.ref a1), (.ref e1)] below meth c s₁ [] 0 0 := Stand.of_body Bd
  have e0 : s₁.heap = h0 := by rw [← hh, Bd.state]; rfl
  have N0 := Fr.nil n0
  have Z0 : n0 ≤ h0.size := old_le O0
  have pre0 : ∀ t, Steps p.tables e below (s₁.setTop (mkF m 0 #[.val (.ref a1), .val (.ref e1)] [])) t → Steps p.tables e below (s₁.setTop (entryFrame m #[(.ref a1), (.ref e1)] 2)) t := fun t k => castTop (ef_rm14_2E m a1 e1) k
  obtain ⟨T101, X101, e101, st101⟩ := getF X0 hx hZ hown (host := "") (Or.inl (hwk hw 157 rfl)) (Via.of (hwk hw 158 rfl)) e0 LM (g := (mkF m 2 #[.val (.ref a1), .val (.ref e1)] [(.ref a1), (.ref a1)])) rfl rfl (hb hby d14_2)
  obtain ⟨T102, h102, X102, e102, W102, st102⟩ := putF X101 hx hZ hown (host := "") (Or.inl (hwk hw 157 rfl)) (Via.of (hwk hw 158 rfl)) e101 LM LE (Or.inl (hwk hw 29 rfl)) (hwk hw 10 rfl) (ty := .int) (by decide) rfl rfl (g := (mkF m 7 #[.val (.ref a1), .val (.ref e1)] [(.int (m1 + (1 : Int32))), (.ref a1)])) rfl rfl (hb hby d14_7)
  have F102 : Fld Z h102 a1 "java/util/AbstractList" "modCount" "I" (.int (m1 + (1 : Int32))) := Fld.same W102 LM
  have N102 := Fr.snoc X102 N0 g1
  have c103 : Fld Z h102 a1 "java/util/ArrayList" "elementData" "[Ljava/lang/Object;" (.ref t1) := (Fld.other W102 LD (Or.inr (slot_ne (Or.inl (hwk hw 32 rfl)) (Or.inl (hwk hw 29 rfl)) (by decide) (t := (.array (.object "java/lang/Object"))) (t' := .int) (by decide) (by decide))))
  obtain ⟨T104, X104, e104, st104⟩ := getF X102 hx hZ hown (host := "") (Or.inl (hwk hw 31 rfl)) Via.refl e102 c103 (g := (mkF m 13 #[.val (.ref a1), .val (.ref e1)] [(.ref a1), (.ref e1), (.ref a1)])) rfl rfl (hb hby d14_13)
  have c105 : Fld Z h102 a1 "java/util/ArrayList" "size" "I" (.int (2 : Int32)) := (Fld.other W102 LS (Or.inr (slot_ne (Or.inl (hwk hw 160 rfl)) (Or.inl (hwk hw 29 rfl)) (by decide) (t := .int) (t' := .int) (by decide) (by decide))))
  obtain ⟨T106, X106, e106, st106⟩ := getF X104 hx hZ hown (host := "") (Or.inl (hwk hw 159 rfl)) Via.refl e104 c105 (g := (mkF m 17 #[.val (.ref a1), .val (.ref e1)] [(.ref a1), (.ref t1), (.ref e1), (.ref a1)])) rfl rfl (hb hby d14_17)
  have c107 : Exa Z h102 a1 "java/util/ArrayList" := (Exa.wr W102 LE)
  have c108 : Arv Z h102 t1 k1 (.object "java/lang/Object") (10 : Int32) [(.ref x0), (.ref x1), .null, .null, .null, .null, .null, .null, .null, .null] .null := (Arv.other LV W102 nt)
  have c109 : Exa Z h102 e1 "com/example/fixlore/fixlore/lang/GraphBuilder$End" := (Exa.wr W102 EE)
  have O110 : Old Z n0 h102 := Old.wr O0 W102 g1
  obtain ⟨cq111, q111, q111'⟩ := (c107).cell
  obtain ⟨_, _, ⟨T111, L111, k111, n111⟩, -, X111, ⟨Lc111, hQ111, l111, y111, z111⟩, st111⟩ := X106.privateBack hx (y := (⟨"java/util/ArrayList", "add", "(Ljava/lang/Object;[Ljava/lang/Object;I)V"⟩ : MethodName)) hown (mvT hZ (hwk hw 161 rfl)) (mvT hZ (hwk hw 162 rfl)) (mvT hZ (hwk hw 164 rfl)) (Cond.privateMethod_at (mvP hZ (hwk hw 163 rfl) (args := #[]))) (mvT hZ (hwk hw 165 rfl)) (by decide) (backOf (W := 0) (rm15_2E l Z a0 hw [] a1 e1 x0 x1 (m1 + (1 : Int32)) t1 k1 h102 n0 O110 c107 c103 c105 F102 c108 LO g1 c109 gt nt) hZ (hwk hw 165 rfl) (hwk hw 11 rfl) (by decide) (by decide)) (g := (mkF m 20 #[.val (.ref a1), .val (.ref e1)] [(.int (2 : Int32)), (.ref t1), (.ref e1), (.ref a1)])) rfl (by rw [hml]; rfl) (Steps.refl _) (a := a1) (by rw [e106]; exact q111) q111' (argsL := [(.ref e1), (.ref t1), (.int (2 : Int32))]) (rest := []) (lenOf pd_4 rfl) rfl (by show 2 * 0 + _ ≤ _; exact Nat.le_of_eq rfl) (hb hby d14_20) (fun _ _ => ⟨rfl, e106, (by decide : 0 + 0 ≤ _), (by decide : 0 + 0 ≤ _)⟩)
  dsimp only [Pt.U, Pt.locs, Pt.cells, Pt.slots] at X111 l111 y111 z111 st111 hQ111
  subst l111 y111 z111
  unfold Q_rm15_2E at hQ111
  obtain ⟨rfl, N111q, K111, f111_0, f111_1, f111_2, f111_3, f111_4, f111_5⟩ := hQ111
  have N111 := Fr.app N102 N111q
  have K112 : Keep h0 h102 [a1, t1] := Keep.wr (Keep.refl h0 [a1, t1]) W102 (Or.inl (List.mem_of_getElem? (i := 0) rfl))
  have K113 : Keep h0 T111.heap [a1, t1] := Keep.trans K112 K111 (allS (Or.inl (List.mem_of_getElem? (i := 0) rfl)) (allS (Or.inl (List.mem_of_getElem? (i := 1) rfl)) all0))
  obtain ⟨fs, hr, hrun, hended, hW, hsame⟩ := X111.leave (v := some (.int (1 : Int32))) (fun h => by rw [Bd.returns] at h; cases h)
  refine ⟨_, _, pre0 _ ?_, hrun, hended, _, _, rfl, ?_, ⟨_, rfl⟩, hW, hsame.mono (by decide) (by decide)⟩
  · show Steps p.tables e below (s₁.setTop (mkF m 0 #[.val (.ref a1), .val (.ref e1)] [])) _
    refine XS.aloadN X0.here hx rfl (hb hby d14_0) rfl rfl ?_
    refine XS.dup X0.here hx rfl (hb hby d14_1) rfl rfl ?_
    show Steps p.tables e below (s₁.setTop (mkF m 2 #[.val (.ref a1), .val (.ref e1)] [(.ref a1), (.ref a1)])) _
    refine st101 _ ?_
    show Steps p.tables e below (T101.setTop (mkF m 5 #[.val (.ref a1), .val (.ref e1)] [(.int m1), (.ref a1)])) _
    refine XS.iconst X101.here hx rfl (hb hby d14_5) ?_
    refine XS.iadd X101.here hx rfl (hb hby d14_6) rfl ?_
    show Steps p.tables e below (T101.setTop (mkF m 7 #[.val (.ref a1), .val (.ref e1)] [(.int (m1 + (1 : Int32))), (.ref a1)])) _
    refine st102 _ ?_
    show Steps p.tables e below (T102.setTop (mkF m 10 #[.val (.ref a1), .val (.ref e1)] [])) _
    refine XS.aloadN X102.here hx rfl (hb hby d14_10) rfl rfl ?_
    refine XS.aloadN X102.here hx rfl (hb hby d14_11) rfl rfl ?_
    refine XS.aloadN X102.here hx rfl (hb hby d14_12) rfl rfl ?_
    show Steps p.tables e below (T102.setTop (mkF m 13 #[.val (.ref a1), .val (.ref e1)] [(.ref a1), (.ref e1), (.ref a1)])) _
    refine st104 _ ?_
    show Steps p.tables e below (T104.setTop (mkF m 16 #[.val (.ref a1), .val (.ref e1)] [(.ref t1), (.ref e1), (.ref a1)])) _
    refine XS.aloadN X104.here hx rfl (hb hby d14_16) rfl rfl ?_
    show Steps p.tables e below (T104.setTop (mkF m 17 #[.val (.ref a1), .val (.ref e1)] [(.ref a1), (.ref t1), (.ref e1), (.ref a1)])) _
    refine st106 _ ?_
    show Steps p.tables e below (T106.setTop (mkF m 20 #[.val (.ref a1), .val (.ref e1)] [(.int (2 : Int32)), (.ref t1), (.ref e1), (.ref a1)])) _
    refine st111.trans ?_
    show Steps p.tables e below (T111.setTop (mkF m 23 #[.val (.ref a1), .val (.ref e1)] [])) _
    refine XS.iconst X111.here hx rfl (hb hby d14_23) ?_
    show Steps p.tables e below (T111.setTop (mkF m 24 #[.val (.ref a1), .val (.ref e1)] [(.int (1 : Int32))])) _
    exact Jvm.RoadKit.retOut X111 hx Bd.returns rfl (Or.inl ⟨rfl, by simp, _, rfl⟩) (hb hby d14_24) hr
  · show Q_rm14_2E Z a1 e1 x0 x1 m1 t1 k1 h0 n0 _ T111.heap _
    unfold Q_rm14_2E
    exact ⟨rfl, N111, K113, f111_0, f111_1, f111_2, f111_3, f111_4, LO⟩
theorem ef_rm19 (m : MethodId) (x0 : Addr) : entryFrame m #[(.ref x0)] 1 = mkF m 0 #[.val (.ref x0)] [] := by first | (simp [entryFrame, mkF, argsToLocals, Value.category]; done) | rfl
def Q_rm19 (Z : State) (a1 : Addr) (p1 : Int32) (h0 : Heap) (n0 : Nat) (v : Option Value) (h : Heap) (L : List Loc) : Prop := (v = some (.int p1)) ∧ (Fr n0 L) ∧ (h = h0)
theorem d19_0 : decode jdk_38_method_8_code 0 = .ok (.aload_n 0, 1) := by decide +kernel
theorem d19_1 : decode jdk_38_method_8_code 1 = .ok (.getfield 48, 3) := by decide +kernel
theorem d19_4 : decode jdk_38_method_8_code 4 = .ok (.ireturn, 1) := by decide +kernel
set_option maxRecDepth 65536 in
set_option maxHeartbeats 40000000 in
theorem rm19 (l : Launch) (Z : State) (a0 : Array Value) (hw : ∀ d ∈ tables_1, d.before a0 Z = true) (ws : List Jvm.Cond) (a1 : Addr) (p1 : Int32) (h0 : Heap) (n0 : Nat) (O0 : Old Z n0 h0) (F1 : Fld Z h0 a1 "java/util/ArrayList" "size" "I" (.int p1)) :
    MetFree l (⟨"java/util/ArrayList", "size", "()I"⟩ : MethodName) (head1 (Jvm.Cond.code (⟨"java/util/ArrayList", "size", "()I"⟩ : MethodName) jdk_38_method_8_code 1 (some .int) :: ws) ({ frames := 0, cells := 0, slots := 0, locals := 0 } : Room)) (fun a U => a = #[(.ref a1)] ∧ Z.Warmed39 U.vm ∧ U.heap = h0) (fun _ _ _ _ _ => True) (fun _ U o U' => ∃ v L, o = .returned v ∧ Q_rm19 Z a1 p1 h0 n0 v U'.heap L ∧ FrameEnd U o U' L ({ frames := 0, cells := 0, slots := 0, locals := 0 } : Room).cells ({ frames := 0, cells := 0, slots := 0, locals := 0 } : Room).slots) := by
  refine MetFree.of_bodySF (plainFor_of_name pn_2) hisR ?_
  intro p e s m args below meth c s₁ Bd hml0 hP hK
  obtain ⟨rfl, hZ, hh⟩ := hP
  have hx := Bd.exec
  have hby := Bd.bytes
  have hml : c.maxLocals = 1 := hml0
  have hown : s.vm.findClass "java/util/ArrayList" = some m.cls := findClass_of_methodNamed Bd.named
  have hnm := (name_of_methodNamed Bd.named Bd.method).1
  have X0 : Stand p l e ({ frames := 0, cells := 0, slots := 0, locals := 0 } : Room) s m #[(.ref a1)] below meth c s₁ [] 0 0 := Stand.of_body Bd
  have e0 : s₁.heap = h0 := by rw [← hh, Bd.state]; rfl
  have N0 := Fr.nil n0
  have Z0 : n0 ≤ h0.size := old_le O0
  have pre0 : ∀ t, Steps p.tables e below (s₁.setTop (mkF m 0 #[.val (.ref a1)] [])) t → Steps p.tables e below (s₁.setTop (entryFrame m #[(.ref a1)] 1)) t := fun t k => castTop (ef_rm19 m a1) k
  obtain ⟨T101, X101, e101, st101⟩ := getF X0 hx hZ hown (host := "") (Or.inl (hwk hw 159 rfl)) Via.refl e0 F1 (g := (mkF m 1 #[.val (.ref a1)] [(.ref a1)])) rfl rfl (hb hby d19_1)
  obtain ⟨fs, hr, hrun, hended, hW, hsame⟩ := X101.leave (v := some (.int p1)) (fun h => by rw [Bd.returns] at h; cases h)
  refine ⟨_, _, pre0 _ ?_, hrun, hended, _, _, rfl, ?_, ⟨_, rfl⟩, hW, hsame.mono (by decide) (by decide)⟩
  · show Steps p.tables e below (s₁.setTop (mkF m 0 #[.val (.ref a1)] [])) _
    refine XS.aloadN X0.here hx rfl (hb hby d19_0) rfl rfl ?_
    show Steps p.tables e below (s₁.setTop (mkF m 1 #[.val (.ref a1)] [(.ref a1)])) _
    refine st101 _ ?_
    show Steps p.tables e below (T101.setTop (mkF m 4 #[.val (.ref a1)] [(.int p1)])) _
    exact Jvm.RoadKit.retOut X101 hx Bd.returns rfl (Or.inl ⟨rfl, by simp, _, rfl⟩) (hb hby d19_4) hr
  · show Q_rm19 Z a1 p1 h0 n0 _ T101.heap _
    rw [e101]
    unfold Q_rm19
    exact ⟨rfl, N0, rfl⟩
theorem ef_rm11_0 (m : MethodId) (x0 : Addr) (x1 : Addr) (x2 : Addr) (x3 : Int32) (x4 : Int32) : entryFrame m #[(.ref x0), (.ref x1), (.ref x2), (.int x3), (.int x4)] 6 = mkF m 0 #[.val (.ref x0), .val (.ref x1), .val (.ref x2), .val (.int x3), .val (.int x4), .unset] [] := by first | (simp [entryFrame, mkF, argsToLocals, Value.category]; done) | rfl
def Q_rm11_0 (Z : State) (a1 : Addr) (k2 : Addr) (s3 : Addr) (p4 : Int32) (p5 : Int32) (d1 : Addr) (l1 : Addr) (m1 : Int32) (wd : Addr) (kd : ClassId) (vd : List Value) (h0 : Heap) (n0 : Nat) (v : Option Value) (h : Heap) (L : List Loc) : Prop := ∃ e : Addr, ∃ t : Addr, ∃ k : ClassId, (v = some (.int (0 : Int32))) ∧ (Fr n0 L) ∧ (Keep h0 h [l1]) ∧ (h0.size ≤ e) ∧ (h0.size ≤ t) ∧ (Exa Z h l1 "java/util/ArrayList") ∧ (Fld Z h l1 "java/util/ArrayList" "elementData" "[Ljava/lang/Object;" (.ref t)) ∧ (Fld Z h l1 "java/util/ArrayList" "size" "I" (.int (1 : Int32))) ∧ (Fld Z h l1 "java/util/AbstractList" "modCount" "I" (.int (m1 + (1 : Int32)))) ∧ (Arv Z h t k (.object "java/lang/Object") (10 : Int32) [(.ref e), .null, .null, .null, .null, .null, .null, .null, .null, .null] .null) ∧ (Ovr Z k "java/lang/Object") ∧ (t ≠ l1)
theorem pn_9 : plainName "com/example/fixlore/fixlore/lang/GraphBuilder" = true := by first | (simp [plainName, overriddenIn]; done) | decide +kernel
theorem d11_0 : decode prog_26_method_2_code 0 = .ok (.aload_n 0, 1) := by decide +kernel
theorem d11_1 : decode prog_26_method_2_code 1 = .ok (.getfield 46, 3) := by decide +kernel
theorem d11_4 : decode prog_26_method_2_code 4 = .ok (.invokeinterface 76 1, 5) := by decide +kernel
theorem pd_5 : parseMethodDescriptor "()Z" = some ⟨[], some .boolean⟩ := by decide +kernel
theorem d11_9 : decode prog_26_method_2_code 9 = .ok (.ifCond .eq 7, 3) := by decide +kernel
theorem d11_12 : decode prog_26_method_2_code 12 = .ok (.iconst 0, 1) := by decide +kernel
theorem d11_13 : decode prog_26_method_2_code 13 = .ok (.goto 18, 3) := by decide +kernel
theorem d11_31 : decode prog_26_method_2_code 31 = .ok (.istore 5, 2) := by decide +kernel
theorem d11_33 : decode prog_26_method_2_code 33 = .ok (.aload_n 0, 1) := by decide +kernel
theorem d11_34 : decode prog_26_method_2_code 34 = .ok (.getfield 10, 3) := by decide +kernel
theorem d11_37 : decode prog_26_method_2_code 37 = .ok (.new 92, 3) := by decide +kernel
theorem d11_40 : decode prog_26_method_2_code 40 = .ok (.dup, 1) := by decide +kernel
theorem d11_41 : decode prog_26_method_2_code 41 = .ok (.aload_n 1, 1) := by decide +kernel
theorem d11_42 : decode prog_26_method_2_code 42 = .ok (.aload_n 2, 1) := by decide +kernel
theorem d11_43 : decode prog_26_method_2_code 43 = .ok (.iload_n 3, 1) := by decide +kernel
theorem d11_44 : decode prog_26_method_2_code 44 = .ok (.iload 4, 2) := by decide +kernel
theorem d11_46 : decode prog_26_method_2_code 46 = .ok (.iload 5, 2) := by decide +kernel
theorem d11_48 : decode prog_26_method_2_code 48 = .ok (.invokespecial 94, 3) := by decide +kernel
theorem pd_6 : parseMethodDescriptor "(Lcom/example/fixlore/fixlore/lang/SemanticGraph$Kind;Ljava/lang/String;III)V" = some ⟨[(.object "com/example/fixlore/fixlore/lang/SemanticGraph$Kind"), (.object "java/lang/String"), .int, .int, .int], none⟩ := by decide +kernel
theorem d11_51 : decode prog_26_method_2_code 51 = .ok (.invokeinterface 97 2, 5) := by decide +kernel
theorem pd_7 : parseMethodDescriptor "(Ljava/lang/Object;)Z" = some ⟨[(.object "java/lang/Object")], some .boolean⟩ := by decide +kernel
theorem d11_56 : decode prog_26_method_2_code 56 = .ok (.pop, 1) := by decide +kernel
theorem d11_57 : decode prog_26_method_2_code 57 = .ok (.aload_n 0, 1) := by decide +kernel
theorem d11_58 : decode prog_26_method_2_code 58 = .ok (.getfield 10, 3) := by decide +kernel
theorem d11_61 : decode prog_26_method_2_code 61 = .ok (.invokeinterface 102 1, 5) := by decide +kernel
theorem pd_8 : parseMethodDescriptor "()I" = some ⟨[], some .int⟩ := by decide +kernel
theorem d11_66 : decode prog_26_method_2_code 66 = .ok (.iconst 1, 1) := by decide +kernel
theorem d11_67 : decode prog_26_method_2_code 67 = .ok (.isub, 1) := by decide +kernel
theorem d11_68 : decode prog_26_method_2_code 68 = .ok (.ireturn, 1) := by decide +kernel
set_option maxRecDepth 65536 in
set_option maxHeartbeats 40000000 in
theorem rm11_0 (l : Launch) (Z : State) (a0 : Array Value) (hw : ∀ d ∈ tables_1, d.before a0 Z = true) (ws : List Jvm.Cond) (a1 : Addr) (k2 : Addr) (s3 : Addr) (p4 : Int32) (p5 : Int32) (d1 : Addr) (l1 : Addr) (m1 : Int32) (wd : Addr) (kd : ClassId) (vd : List Value) (h0 : Heap) (n0 : Nat) (O0 : Old Z n0 h0) (GE : Exa Z h0 a1 "com/example/fixlore/fixlore/lang/GraphBuilder") (GO : Fld Z h0 a1 "com/example/fixlore/fixlore/lang/GraphBuilder" "openTryParts" "Ljava/util/Deque;" (.ref d1)) (GN : Fld Z h0 a1 "com/example/fixlore/fixlore/lang/GraphBuilder" "nodes" "Ljava/util/List;" (.ref l1)) (DE : Exa Z h0 d1 "java/util/ArrayDeque") (DH : Fld Z h0 d1 "java/util/ArrayDeque" "head" "I" (.int (0 : Int32))) (DT : Fld Z h0 d1 "java/util/ArrayDeque" "tail" "I" (.int (0 : Int32))) (LE : Exa Z h0 l1 "java/util/ArrayList") (LD : Fld Z h0 l1 "java/util/ArrayList" "elementData" "[Ljava/lang/Object;" (.ref wd)) (LS : Fld Z h0 l1 "java/util/ArrayList" "size" "I" (.int (0 : Int32))) (LM : Fld Z h0 l1 "java/util/AbstractList" "modCount" "I" (.int m1)) (gl : n0 ≤ l1) (na : a1 ≠ l1) (nd : d1 ≠ l1) (SD : Sta Z Z.heap "java/util/ArrayList" "DEFAULTCAPACITY_EMPTY_ELEMENTDATA" "[Ljava/lang/Object;" (.ref wd)) (VD : Arv Z Z.heap wd kd (.object "java/lang/Object") (0 : Int32) vd .null) :
    MetFree l (⟨"com/example/fixlore/fixlore/lang/GraphBuilder", "add", "(Lcom/example/fixlore/fixlore/lang/SemanticGraph$Kind;Ljava/lang/String;II)I"⟩ : MethodName) (head1 (Jvm.Cond.code (⟨"com/example/fixlore/fixlore/lang/GraphBuilder", "add", "(Lcom/example/fixlore/fixlore/lang/SemanticGraph$Kind;Ljava/lang/String;II)I"⟩ : MethodName) prog_26_method_2_code 6 (some .int) :: ws) ({ frames := 5, cells := 3, slots := 19, locals := 69 } : Room)) (fun a U => a = #[(.ref a1), (.ref k2), (.ref s3), (.int p4), (.int p5)] ∧ Z.Warmed39 U.vm ∧ U.heap = h0) (fun _ _ _ _ _ => True) (fun _ U o U' => ∃ v L, o = .returned v ∧ Q_rm11_0 Z a1 k2 s3 p4 p5 d1 l1 m1 wd kd vd h0 n0 v U'.heap L ∧ FrameEnd U o U' L ({ frames := 5, cells := 3, slots := 19, locals := 69 } : Room).cells ({ frames := 5, cells := 3, slots := 19, locals := 69 } : Room).slots) := by
  refine MetFree.of_bodySF (plainFor_of_name pn_9) hisR ?_
  intro p e s m args below meth c s₁ Bd hml0 hP hK
  obtain ⟨rfl, hZ, hh⟩ := hP
  have hx := Bd.exec
  have hby := Bd.bytes
  have hml : c.maxLocals = 6 := hml0
  have hown : s.vm.findClass "com/example/fixlore/fixlore/lang/GraphBuilder" = some m.cls := findClass_of_methodNamed Bd.named
  have hnm := (name_of_methodNamed Bd.named Bd.method).1
  have X0 : Stand p l e ({ frames := 5, cells := 3, slots := 19, locals := 69 } : Room) s m #[(.ref a1), (.ref k2), (.ref s3), (.int p4), (.int p5)] below meth c s₁ [] 0 0 := Stand.of_body Bd
  have e0 : s₁.heap = h0 := by rw [← hh, Bd.state]; rfl
  have N0 := Fr.nil n0
  have Z0 : n0 ≤ h0.size := old_le O0
  have pre0 : ∀ t, Steps p.tables e below (s₁.setTop (mkF m 0 #[.val (.ref a1), .val (.ref k2), .val (.ref s3), .val (.int p4), .val (.int p5), .unset] [])) t → Steps p.tables e below (s₁.setTop (entryFrame m #[(.ref a1), (.ref k2), (.ref s3), (.int p4), (.int p5)] 6)) t := fun t k => castTop (ef_rm11_0 m a1 k2 s3 p4 p5) k
  obtain ⟨T101, X101, e101, st101⟩ := getF X0 hx hZ hown (host := "") (Or.inl (hwk hw 94 rfl)) Via.refl e0 GO (g := (mkF m 1 #[.val (.ref a1), .val (.ref k2), .val (.ref s3), .val (.int p4), .val (.int p5), .unset] [(.ref a1)])) rfl rfl (hb hby d11_1)
  obtain ⟨cq102, kq102, q102a, q102b, q102c⟩ := isOf hZ e101 DE
  obtain ⟨_, _, ⟨T102, L102, k102, n102⟩, -, X102, ⟨Lc102, hQ102, l102, y102, z102⟩, st102⟩ := own_faceUp X101 hx (J := "java/util/Collection") (xi := (⟨"java/util/Deque", "isEmpty", "()Z"⟩ : MethodName)) (y := (⟨"java/util/ArrayDeque", "isEmpty", "()Z"⟩ : MethodName)) hown (mvT hZ (hwk hw 114 rfl)) (mvT hZ (hwk hw 115 rfl)) (Jvm.Free.ULB.iface_rides hZ.alike (hwk hw 116 rfl)) (by decide) (by decide) (mvT hZ (hwk hw 117 rfl)) (mvT hZ (hwk hw 118 rfl)) (mvT hZ (hwk hw 119 rfl)) (mvT hZ (hwk hw 120 rfl)) (mvT hZ (hwk hw 121 rfl)) (by decide) (backOf (W := 0) (rm12 l Z a0 hw [] d1 (0 : Int32) h0 n0 O0 DH DT) hZ (hwk hw 122 rfl) (hwk hw 80 rfl) (by decide) (by decide)) q102a q102b q102c (g := (mkF m 4 #[.val (.ref a1), .val (.ref k2), .val (.ref s3), .val (.int p4), .val (.int p5), .unset] [(.ref d1)])) rfl (by rw [hml]; rfl) (Steps.refl _) (argsL := []) (rest := []) (lenOf pd_5 rfl) rfl (by show 2 * 0 + _ ≤ _; exact Nat.le_of_eq rfl) (hb hby d11_4) (fun _ _ => ⟨rfl, e101, (by decide : 0 + 0 ≤ _), (by decide : 0 + 0 ≤ _)⟩)
  dsimp only [Pt.U, Pt.locs, Pt.cells, Pt.slots] at X102 l102 y102 z102 st102 hQ102
  subst l102 y102 z102
  unfold Q_rm12 at hQ102
  obtain ⟨rfl, N102q, e102⟩ := hQ102
  have N102 := Fr.app N0 N102q
  obtain ⟨T103, X103, e103, st103⟩ := getF X102 hx hZ hown (host := "") (Or.inl (hwk hw 33 rfl)) Via.refl e102 GN (g := (mkF m 34 #[.val (.ref a1), .val (.ref k2), .val (.ref s3), .val (.int p4), .val (.int p5), .val (.int (0 : Int32))] [(.ref a1)])) rfl rfl (hb hby d11_34)
  obtain ⟨T104, h104, X104, e104, E104, A104, D104, -, st104⟩ := newO X103 hx hZ hown (hwk hw 127 rfl) (hwk hw 128 rfl) (hwk hw 129 rfl) e103 (g := (mkF m 37 #[.val (.ref a1), .val (.ref k2), .val (.ref s3), .val (.int p4), .val (.int p5), .val (.int (0 : Int32))] [(.ref l1)])) rfl (hb hby d11_37) (by decide) (by decide)
  obtain ⟨b104, g104⟩ : ∃ z, z = h0.size := ⟨_, rfl⟩
  rw [← g104] at A104 D104 st104
  have g_b104 : n0 ≤ b104 := Nat.le_trans (old_le O0) (Nat.le_of_eq g104.symm)
  have O105 : Old Z n0 h104 := Old.ext O0 E104
  obtain ⟨_, _, ⟨T106, L106, k106, n106⟩, -, X106, ⟨Lc106, hQ106, l106, y106, z106⟩, st106⟩ := own_specialRef X104 hx (y := (⟨"com/example/fixlore/fixlore/lang/GraphBuilder$Draft", "<init>", "(Lcom/example/fixlore/fixlore/lang/SemanticGraph$Kind;Ljava/lang/String;III)V"⟩ : MethodName)) rfl hown (own_mvRef hZ (by decide) (hwk hw 131 rfl) (hwk hw 130 rfl)) (mvT hZ (hwk hw 131 rfl)) (mvT hZ (hwk hw 132 rfl)) (by decide) (backOf (W := 2) (rm13 l Z a0 hw [] b104 k2 s3 p4 p5 (0 : Int32) wd h104 n0 O105 A104 g_b104 (show Fld Z h104 b104 "com/example/fixlore/fixlore/lang/GraphBuilder$Draft" "steps" "Ljava/util/List;" .null from D104 (Or.inr (hwk hw 137 rfl)) (ty := (.object "java/util/List")) (by decide)) (show Fld Z h104 b104 "com/example/fixlore/fixlore/lang/GraphBuilder$Draft" "kind" "Lcom/example/fixlore/fixlore/lang/SemanticGraph$Kind;" .null from D104 (Or.inl (hwk hw 139 rfl)) (ty := (.object "com/example/fixlore/fixlore/lang/SemanticGraph$Kind")) (by decide)) (show Fld Z h104 b104 "com/example/fixlore/fixlore/lang/GraphBuilder$Draft" "label" "Ljava/lang/String;" .null from D104 (Or.inr (hwk hw 141 rfl)) (ty := (.object "java/lang/String")) (by decide)) (show Fld Z h104 b104 "com/example/fixlore/fixlore/lang/GraphBuilder$Draft" "line" "I" (.int (0 : Int32)) from D104 (Or.inr (hwk hw 143 rfl)) (ty := .int) (by decide)) (show Fld Z h104 b104 "com/example/fixlore/fixlore/lang/GraphBuilder$Draft" "column" "I" (.int (0 : Int32)) from D104 (Or.inr (hwk hw 145 rfl)) (ty := .int) (by decide)) (show Fld Z h104 b104 "com/example/fixlore/fixlore/lang/GraphBuilder$Draft" "tryPart" "I" (.int (0 : Int32)) from D104 (Or.inr (hwk hw 147 rfl)) (ty := .int) (by decide)) SD) hZ (hwk hw 132 rfl) (hwk hw 129 rfl) (by decide) (by decide)) (g := (mkF m 48 #[.val (.ref a1), .val (.ref k2), .val (.ref s3), .val (.int p4), .val (.int p5), .val (.int (0 : Int32))] [(.int (0 : Int32)), (.int p5), (.int p4), (.ref s3), (.ref k2), (.ref b104), (.ref b104), (.ref l1)])) rfl (by rw [hml]; rfl) (Steps.refl _) (a := b104) (argsL := [(.ref k2), (.ref s3), (.int p4), (.int p5), (.int (0 : Int32))]) (rest := [(.ref b104), (.ref l1)]) (lenOf pd_6 rfl) rfl (by show 2 * 0 + _ ≤ _; exact Nat.le_of_eq rfl) (hb hby d11_48) (fun _ _ => ⟨rfl, e104, (by decide : 1 + 1 ≤ _), (by decide : 6 + 3 ≤ _)⟩)
  dsimp only [Pt.U, Pt.locs, Pt.cells, Pt.slots] at X106 l106 y106 z106 st106 hQ106
  subst l106 y106 z106
  unfold Q_rm13 at hQ106
  obtain ⟨rfl, N106q, K106, f106_0⟩ := hQ106
  have N106 := Fr.app N102 N106q
  have c107 : Exa Z T106.heap l1 "java/util/ArrayList" := (Exa.keep (Exa.ext E104 LE) K106)
  have c108 : Fld Z T106.heap l1 "java/util/ArrayList" "elementData" "[Ljava/lang/Object;" (.ref wd) := (Fld.keep (Fld.ext E104 LD) K106 (ninS (ne_exa c107 f106_0 (by decide)) nin0))
  have c109 : Fld Z T106.heap l1 "java/util/ArrayList" "size" "I" (.int (0 : Int32)) := (Fld.keep (Fld.ext E104 LS) K106 (ninS (ne_exa c107 f106_0 (by decide)) nin0))
  have c110 : Fld Z T106.heap l1 "java/util/AbstractList" "modCount" "I" (.int m1) := (Fld.keep (Fld.ext E104 LM) K106 (ninS (ne_exa c107 f106_0 (by decide)) nin0))
  have O111 : Old Z n0 T106.heap := Old.keep O105 K106 (allS g_b104 all0)
  obtain ⟨cq112, kq112, q112a, q112b, q112c⟩ := isOf hZ (rfl : T106.heap = T106.heap) c107
  obtain ⟨_, _, ⟨T112, L112, k112, n112⟩, -, X112, ⟨Lc112, hQ112, l112, y112, z112⟩, st112⟩ := X106.interfaceBack hx (xi := (⟨"java/util/List", "add", "(Ljava/lang/Object;)Z"⟩ : MethodName)) (y := (⟨"java/util/ArrayList", "add", "(Ljava/lang/Object;)Z"⟩ : MethodName)) hown (mvT hZ (hwk hw 148 rfl)) (mvT hZ (hwk hw 149 rfl)) (mvT hZ (hwk hw 150 rfl)) (mvT hZ (hwk hw 151 rfl)) (mvT hZ (hwk hw 152 rfl)) (mvT hZ (hwk hw 153 rfl)) (mvT hZ (hwk hw 154 rfl)) (mvT hZ (hwk hw 155 rfl)) (by decide) (backOf (W := 0) (rm14_0D l Z a0 hw [] l1 b104 m1 wd kd vd T106.heap n0 O111 c107 c108 c109 c110 gl f106_0 SD VD) hZ (hwk hw 156 rfl) (hwk hw 11 rfl) (by decide) (by decide)) q112a q112b q112c (g := (mkF m 51 #[.val (.ref a1), .val (.ref k2), .val (.ref s3), .val (.int p4), .val (.int p5), .val (.int (0 : Int32))] [(.ref b104), (.ref l1)])) rfl (by rw [hml]; rfl) (Steps.refl _) (argsL := [(.ref b104)]) (rest := []) (lenOf pd_7 rfl) rfl (by show 2 * 0 + _ ≤ _; exact Nat.le_of_eq rfl) (hb hby d11_51) (fun _ _ => ⟨rfl, (rfl : T106.heap = T106.heap), (by decide : 2 + 1 ≤ _), (by decide : 9 + 10 ≤ _)⟩)
  dsimp only [Pt.U, Pt.locs, Pt.cells, Pt.slots] at X112 l112 y112 z112 st112 hQ112
  subst l112 y112 z112
  unfold Q_rm14_0D at hQ112
  obtain ⟨t_112, k_112, rfl, N112q, K112, ge_t_112, f112_0, f112_1, f112_2, f112_3, f112_4, f112_5, f112_6⟩ := hQ112
  have N112 := Fr.app N106 N112q
  have g_t_112 : n0 ≤ t_112 := Nat.le_trans (old_le O111) ge_t_112
  have c113 : Fld Z T112.heap a1 "com/example/fixlore/fixlore/lang/GraphBuilder" "nodes" "Ljava/util/List;" (.ref l1) := (Fld.keep (Fld.keep (Fld.ext E104 GN) K106 (ninS (Nat.ne_of_lt (Nat.lt_of_lt_of_le (GE).lt (Nat.le_of_eq g104.symm))) nin0)) K112 (ninS na nin0))
  obtain ⟨T114, X114, e114, st114⟩ := getF X112 hx hZ hown (host := "") (Or.inl (hwk hw 33 rfl)) Via.refl (rfl : T112.heap = T112.heap) c113 (g := (mkF m 58 #[.val (.ref a1), .val (.ref k2), .val (.ref s3), .val (.int p4), .val (.int p5), .val (.int (0 : Int32))] [(.ref a1)])) rfl rfl (hb hby d11_58)
  have O115 : Old Z n0 T112.heap := Old.keep O111 K112 (allS gl all0)
  obtain ⟨cq116, kq116, q116a, q116b, q116c⟩ := isOf hZ e114 f112_0
  obtain ⟨_, _, ⟨T116, L116, k116, n116⟩, -, X116, ⟨Lc116, hQ116, l116, y116, z116⟩, st116⟩ := X114.interfaceBack hx (xi := (⟨"java/util/List", "size", "()I"⟩ : MethodName)) (y := (⟨"java/util/ArrayList", "size", "()I"⟩ : MethodName)) hown (mvT hZ (hwk hw 182 rfl)) (mvT hZ (hwk hw 183 rfl)) (mvT hZ (hwk hw 184 rfl)) (mvT hZ (hwk hw 185 rfl)) (mvT hZ (hwk hw 186 rfl)) (mvT hZ (hwk hw 187 rfl)) (mvT hZ (hwk hw 188 rfl)) (mvT hZ (hwk hw 155 rfl)) (by decide) (backOf (W := 0) (rm19 l Z a0 hw [] l1 (1 : Int32) T112.heap n0 O115 f112_2) hZ (hwk hw 189 rfl) (hwk hw 11 rfl) (by decide) (by decide)) q116a q116b q116c (g := (mkF m 61 #[.val (.ref a1), .val (.ref k2), .val (.ref s3), .val (.int p4), .val (.int p5), .val (.int (0 : Int32))] [(.ref l1)])) rfl (by rw [hml]; rfl) (Steps.refl _) (argsL := []) (rest := []) (lenOf pd_8 rfl) rfl (by show 2 * 0 + _ ≤ _; exact Nat.le_of_eq rfl) (hb hby d11_61) (fun _ _ => ⟨rfl, e114, (by decide : 3 + 0 ≤ _), (by decide : 19 + 0 ≤ _)⟩)
  dsimp only [Pt.U, Pt.locs, Pt.cells, Pt.slots] at X116 l116 y116 z116 st116 hQ116
  subst l116 y116 z116
  unfold Q_rm19 at hQ116
  obtain ⟨rfl, N116q, e116⟩ := hQ116
  have N116 := Fr.app N112 N116q
  have K117 : Keep h0 h104 [l1] := Keep.ext (Keep.refl h0 [l1]) E104
  have K118 : Keep h0 T106.heap [l1] := Keep.trans K117 K106 (allS (Or.inr (Nat.le_trans (Nat.le_refl _) (Nat.le_of_eq g104.symm))) all0)
  have K119 : Keep h0 T112.heap [l1] := Keep.trans K118 K112 (allS (Or.inl (List.mem_of_getElem? (i := 0) rfl)) all0)
  obtain ⟨fs, hr, hrun, hended, hW, hsame⟩ := X116.leave (v := some (.int (0 : Int32))) (fun h => by rw [Bd.returns] at h; cases h)
  refine ⟨_, _, pre0 _ ?_, hrun, hended, _, _, rfl, ?_, ⟨_, rfl⟩, hW, hsame.mono (by decide) (by decide)⟩
  · show Steps p.tables e below (s₁.setTop (mkF m 0 #[.val (.ref a1), .val (.ref k2), .val (.ref s3), .val (.int p4), .val (.int p5), .unset] [])) _
    refine XS.aloadN X0.here hx rfl (hb hby d11_0) rfl rfl ?_
    show Steps p.tables e below (s₁.setTop (mkF m 1 #[.val (.ref a1), .val (.ref k2), .val (.ref s3), .val (.int p4), .val (.int p5), .unset] [(.ref a1)])) _
    refine st101 _ ?_
    show Steps p.tables e below (T101.setTop (mkF m 4 #[.val (.ref a1), .val (.ref k2), .val (.ref s3), .val (.int p4), .val (.int p5), .unset] [(.ref d1)])) _
    refine st102.trans ?_
    show Steps p.tables e below (T102.setTop (mkF m 9 #[.val (.ref a1), .val (.ref k2), .val (.ref s3), .val (.int p4), .val (.int p5), .unset] [(.int (1 : Int32))])) _
    refine XS.ifNo X102.here hx rfl (hb hby d11_9) rfl ((if0 _ _).trans (feq (by decide : ¬ ((1 : Int32) = (0 : Int32)))).1) ?_
    show Steps p.tables e below (T102.setTop (mkF m 12 #[.val (.ref a1), .val (.ref k2), .val (.ref s3), .val (.int p4), .val (.int p5), .unset] [])) _
    refine XS.iconst X102.here hx rfl (hb hby d11_12) ?_
    refine XS.goto X102.here hx rfl (pc0 := 13) (pc' := 31) rfl (hb hby d11_13) (by decide) (by decide) ?_
    show Steps p.tables e below (T102.setTop (mkF m 31 #[.val (.ref a1), .val (.ref k2), .val (.ref s3), .val (.int p4), .val (.int p5), .unset] [(.int (0 : Int32))])) _
    refine XS.istore X102.here hx rfl (hb hby d11_31) rfl (l' := #[.val (.ref a1), .val (.ref k2), .val (.ref s3), .val (.int p4), .val (.int p5), .val (.int (0 : Int32))]) rfl ?_
    show Steps p.tables e below (T102.setTop (mkF m 33 #[.val (.ref a1), .val (.ref k2), .val (.ref s3), .val (.int p4), .val (.int p5), .val (.int (0 : Int32))] [])) _
    refine XS.aloadN X102.here hx rfl (hb hby d11_33) rfl rfl ?_
    show Steps p.tables e below (T102.setTop (mkF m 34 #[.val (.ref a1), .val (.ref k2), .val (.ref s3), .val (.int p4), .val (.int p5), .val (.int (0 : Int32))] [(.ref a1)])) _
    refine st103 _ ?_
    show Steps p.tables e below (T103.setTop (mkF m 37 #[.val (.ref a1), .val (.ref k2), .val (.ref s3), .val (.int p4), .val (.int p5), .val (.int (0 : Int32))] [(.ref l1)])) _
    refine st104 _ ?_
    show Steps p.tables e below (T104.setTop (mkF m 40 #[.val (.ref a1), .val (.ref k2), .val (.ref s3), .val (.int p4), .val (.int p5), .val (.int (0 : Int32))] [(.ref b104), (.ref l1)])) _
    refine XS.dup X104.here hx rfl (hb hby d11_40) rfl rfl ?_
    show Steps p.tables e below (T104.setTop (mkF m 41 #[.val (.ref a1), .val (.ref k2), .val (.ref s3), .val (.int p4), .val (.int p5), .val (.int (0 : Int32))] [(.ref b104), (.ref b104), (.ref l1)])) _
    refine XS.aloadN X104.here hx rfl (hb hby d11_41) rfl rfl ?_
    refine XS.aloadN X104.here hx rfl (hb hby d11_42) rfl rfl ?_
    refine XS.iloadN X104.here hx rfl (hb hby d11_43) rfl ?_
    refine XS.iload X104.here hx rfl (hb hby d11_44) rfl ?_
    show Steps p.tables e below (T104.setTop (mkF m 46 #[.val (.ref a1), .val (.ref k2), .val (.ref s3), .val (.int p4), .val (.int p5), .val (.int (0 : Int32))] [(.int p5), (.int p4), (.ref s3), (.ref k2), (.ref b104), (.ref b104), (.ref l1)])) _
    refine XS.iload X104.here hx rfl (hb hby d11_46) rfl ?_
    show Steps p.tables e below (T104.setTop (mkF m 48 #[.val (.ref a1), .val (.ref k2), .val (.ref s3), .val (.int p4), .val (.int p5), .val (.int (0 : Int32))] [(.int (0 : Int32)), (.int p5), (.int p4), (.ref s3), (.ref k2), (.ref b104), (.ref b104), (.ref l1)])) _
    refine st106.trans ?_
    show Steps p.tables e below (T106.setTop (mkF m 51 #[.val (.ref a1), .val (.ref k2), .val (.ref s3), .val (.int p4), .val (.int p5), .val (.int (0 : Int32))] [(.ref b104), (.ref l1)])) _
    refine st112.trans ?_
    show Steps p.tables e below (T112.setTop (mkF m 56 #[.val (.ref a1), .val (.ref k2), .val (.ref s3), .val (.int p4), .val (.int p5), .val (.int (0 : Int32))] [(.int (1 : Int32))])) _
    refine XS.pop X112.here hx rfl (hb hby d11_56) rfl rfl ?_
    show Steps p.tables e below (T112.setTop (mkF m 57 #[.val (.ref a1), .val (.ref k2), .val (.ref s3), .val (.int p4), .val (.int p5), .val (.int (0 : Int32))] [])) _
    refine XS.aloadN X112.here hx rfl (hb hby d11_57) rfl rfl ?_
    show Steps p.tables e below (T112.setTop (mkF m 58 #[.val (.ref a1), .val (.ref k2), .val (.ref s3), .val (.int p4), .val (.int p5), .val (.int (0 : Int32))] [(.ref a1)])) _
    refine st114 _ ?_
    show Steps p.tables e below (T114.setTop (mkF m 61 #[.val (.ref a1), .val (.ref k2), .val (.ref s3), .val (.int p4), .val (.int p5), .val (.int (0 : Int32))] [(.ref l1)])) _
    refine st116.trans ?_
    show Steps p.tables e below (T116.setTop (mkF m 66 #[.val (.ref a1), .val (.ref k2), .val (.ref s3), .val (.int p4), .val (.int p5), .val (.int (0 : Int32))] [(.int (1 : Int32))])) _
    refine XS.iconst X116.here hx rfl (hb hby d11_66) ?_
    refine XS.isub X116.here hx rfl (hb hby d11_67) rfl ?_
    show Steps p.tables e below (T116.setTop (mkF m 68 #[.val (.ref a1), .val (.ref k2), .val (.ref s3), .val (.int p4), .val (.int p5), .val (.int (0 : Int32))] [(.int ((1 : Int32) - (1 : Int32)))])) _
    rw [show ((1 : Int32) - (1 : Int32)) = (0 : Int32) from by decide]
    show Steps p.tables e below (T116.setTop (mkF m 68 #[.val (.ref a1), .val (.ref k2), .val (.ref s3), .val (.int p4), .val (.int p5), .val (.int (0 : Int32))] [(.int (0 : Int32))])) _
    exact Jvm.RoadKit.retOut X116 hx Bd.returns rfl (Or.inl ⟨rfl, by simp, _, rfl⟩) (hb hby d11_68) hr
  · show Q_rm11_0 Z a1 k2 s3 p4 p5 d1 l1 m1 wd kd vd h0 n0 _ T116.heap _
    rw [e116]
    unfold Q_rm11_0
    exact ⟨b104, t_112, k_112, rfl, N116, K119, (Nat.le_trans (Nat.le_refl _) (Nat.le_of_eq g104.symm)), (Nat.le_trans (Nat.le_trans (Nat.le_trans (Nat.le_refl _) E104.1) K106.1) ge_t_112), f112_0, f112_1, f112_2, f112_3, f112_4, f112_5, f112_6⟩
theorem ef_rm11_1 (m : MethodId) (x0 : Addr) (x1 : Addr) (x2 : Addr) (x3 : Int32) (x4 : Int32) : entryFrame m #[(.ref x0), (.ref x1), (.ref x2), (.int x3), (.int x4)] 6 = mkF m 0 #[.val (.ref x0), .val (.ref x1), .val (.ref x2), .val (.int x3), .val (.int x4), .unset] [] := by first | (simp [entryFrame, mkF, argsToLocals, Value.category]; done) | rfl
def Q_rm11_1 (Z : State) (a1 : Addr) (k2 : Addr) (s3 : Addr) (p4 : Int32) (p5 : Int32) (d1 : Addr) (l1 : Addr) (x0 : Addr) (m1 : Int32) (wd : Addr) (kd : ClassId) (vd : List Value) (t1 : Addr) (k1 : ClassId) (h0 : Heap) (n0 : Nat) (v : Option Value) (h : Heap) (L : List Loc) : Prop := ∃ e : Addr, (v = some (.int (1 : Int32))) ∧ (Fr n0 L) ∧ (Keep h0 h [l1, t1]) ∧ (h0.size ≤ e) ∧ (Exa Z h l1 "java/util/ArrayList") ∧ (Fld Z h l1 "java/util/ArrayList" "elementData" "[Ljava/lang/Object;" (.ref t1)) ∧ (Fld Z h l1 "java/util/ArrayList" "size" "I" (.int (2 : Int32))) ∧ (Fld Z h l1 "java/util/AbstractList" "modCount" "I" (.int (m1 + (1 : Int32)))) ∧ (Arv Z h t1 k1 (.object "java/lang/Object") (10 : Int32) [(.ref x0), (.ref e), .null, .null, .null, .null, .null, .null, .null, .null] .null) ∧ (Ovr Z k1 "java/lang/Object")
set_option maxRecDepth 65536 in
set_option maxHeartbeats 40000000 in
theorem rm11_1 (l : Launch) (Z : State) (a0 : Array Value) (hw : ∀ d ∈ tables_1, d.before a0 Z = true) (ws : List Jvm.Cond) (a1 : Addr) (k2 : Addr) (s3 : Addr) (p4 : Int32) (p5 : Int32) (d1 : Addr) (l1 : Addr) (x0 : Addr) (m1 : Int32) (wd : Addr) (kd : ClassId) (vd : List Value) (t1 : Addr) (k1 : ClassId) (h0 : Heap) (n0 : Nat) (O0 : Old Z n0 h0) (GE : Exa Z h0 a1 "com/example/fixlore/fixlore/lang/GraphBuilder") (GO : Fld Z h0 a1 "com/example/fixlore/fixlore/lang/GraphBuilder" "openTryParts" "Ljava/util/Deque;" (.ref d1)) (GN : Fld Z h0 a1 "com/example/fixlore/fixlore/lang/GraphBuilder" "nodes" "Ljava/util/List;" (.ref l1)) (DE : Exa Z h0 d1 "java/util/ArrayDeque") (DH : Fld Z h0 d1 "java/util/ArrayDeque" "head" "I" (.int (0 : Int32))) (DT : Fld Z h0 d1 "java/util/ArrayDeque" "tail" "I" (.int (0 : Int32))) (LE : Exa Z h0 l1 "java/util/ArrayList") (LD : Fld Z h0 l1 "java/util/ArrayList" "elementData" "[Ljava/lang/Object;" (.ref t1)) (LS : Fld Z h0 l1 "java/util/ArrayList" "size" "I" (.int (1 : Int32))) (LM : Fld Z h0 l1 "java/util/AbstractList" "modCount" "I" (.int m1)) (LV : Arv Z h0 t1 k1 (.object "java/lang/Object") (10 : Int32) [(.ref x0), .null, .null, .null, .null, .null, .null, .null, .null, .null] .null) (LO : Ovr Z k1 "java/lang/Object") (gl : n0 ≤ l1) (na : a1 ≠ l1) (nd : d1 ≠ l1) (SD : Sta Z Z.heap "java/util/ArrayList" "DEFAULTCAPACITY_EMPTY_ELEMENTDATA" "[Ljava/lang/Object;" (.ref wd)) (VD : Arv Z Z.heap wd kd (.object "java/lang/Object") (0 : Int32) vd .null) (gt : n0 ≤ t1) (nt : t1 ≠ l1) (nta : a1 ≠ t1) :
    MetFree l (⟨"com/example/fixlore/fixlore/lang/GraphBuilder", "add", "(Lcom/example/fixlore/fixlore/lang/SemanticGraph$Kind;Ljava/lang/String;II)I"⟩ : MethodName) (head1 (Jvm.Cond.code (⟨"com/example/fixlore/fixlore/lang/GraphBuilder", "add", "(Lcom/example/fixlore/fixlore/lang/SemanticGraph$Kind;Ljava/lang/String;II)I"⟩ : MethodName) prog_26_method_2_code 6 (some .int) :: ws) ({ frames := 5, cells := 2, slots := 9, locals := 69 } : Room)) (fun a U => a = #[(.ref a1), (.ref k2), (.ref s3), (.int p4), (.int p5)] ∧ Z.Warmed39 U.vm ∧ U.heap = h0) (fun _ _ _ _ _ => True) (fun _ U o U' => ∃ v L, o = .returned v ∧ Q_rm11_1 Z a1 k2 s3 p4 p5 d1 l1 x0 m1 wd kd vd t1 k1 h0 n0 v U'.heap L ∧ FrameEnd U o U' L ({ frames := 5, cells := 2, slots := 9, locals := 69 } : Room).cells ({ frames := 5, cells := 2, slots := 9, locals := 69 } : Room).slots) := by
  refine MetFree.of_bodySF (plainFor_of_name pn_9) hisR ?_
  intro p e s m args below meth c s₁ Bd hml0 hP hK
  obtain ⟨rfl, hZ, hh⟩ := hP
  have hx := Bd.exec
  have hby := Bd.bytes
  have hml : c.maxLocals = 6 := hml0
  have hown : s.vm.findClass "com/example/fixlore/fixlore/lang/GraphBuilder" = some m.cls := findClass_of_methodNamed Bd.named
  have hnm := (name_of_methodNamed Bd.named Bd.method).1
  have X0 : Stand p l e ({ frames := 5, cells := 2, slots := 9, locals := 69 } : Room) s m #[(.ref a1), (.ref k2), (.ref s3), (.int p4), (.int p5)] below meth c s₁ [] 0 0 := Stand.of_body Bd
  have e0 : s₁.heap = h0 := by rw [← hh, Bd.state]; rfl
  have N0 := Fr.nil n0
  have Z0 : n0 ≤ h0.size := old_le O0
  have pre0 : ∀ t, Steps p.tables e below (s₁.setTop (mkF m 0 #[.val (.ref a1), .val (.ref k2), .val (.ref s3), .val (.int p4), .val (.int p5), .unset] [])) t → Steps p.tables e below (s₁.setTop (entryFrame m #[(.ref a1), (.ref k2), (.ref s3), (.int p4), (.int p5)] 6)) t := fun t k => castTop (ef_rm11_1 m a1 k2 s3 p4 p5) k
  obtain ⟨T101, X101, e101, st101⟩ := getF X0 hx hZ hown (host := "") (Or.inl (hwk hw 94 rfl)) Via.refl e0 GO (g := (mkF m 1 #[.val (.ref a1), .val (.ref k2), .val (.ref s3), .val (.int p4), .val (.int p5), .unset] [(.ref a1)])) rfl rfl (hb hby d11_1)
  obtain ⟨cq102, kq102, q102a, q102b, q102c⟩ := isOf hZ e101 DE
  obtain ⟨_, _, ⟨T102, L102, k102, n102⟩, -, X102, ⟨Lc102, hQ102, l102, y102, z102⟩, st102⟩ := own_faceUp X101 hx (J := "java/util/Collection") (xi := (⟨"java/util/Deque", "isEmpty", "()Z"⟩ : MethodName)) (y := (⟨"java/util/ArrayDeque", "isEmpty", "()Z"⟩ : MethodName)) hown (mvT hZ (hwk hw 114 rfl)) (mvT hZ (hwk hw 115 rfl)) (Jvm.Free.ULB.iface_rides hZ.alike (hwk hw 116 rfl)) (by decide) (by decide) (mvT hZ (hwk hw 117 rfl)) (mvT hZ (hwk hw 118 rfl)) (mvT hZ (hwk hw 119 rfl)) (mvT hZ (hwk hw 120 rfl)) (mvT hZ (hwk hw 121 rfl)) (by decide) (backOf (W := 0) (rm12 l Z a0 hw [] d1 (0 : Int32) h0 n0 O0 DH DT) hZ (hwk hw 122 rfl) (hwk hw 80 rfl) (by decide) (by decide)) q102a q102b q102c (g := (mkF m 4 #[.val (.ref a1), .val (.ref k2), .val (.ref s3), .val (.int p4), .val (.int p5), .unset] [(.ref d1)])) rfl (by rw [hml]; rfl) (Steps.refl _) (argsL := []) (rest := []) (lenOf pd_5 rfl) rfl (by show 2 * 0 + _ ≤ _; exact Nat.le_of_eq rfl) (hb hby d11_4) (fun _ _ => ⟨rfl, e101, (by decide : 0 + 0 ≤ _), (by decide : 0 + 0 ≤ _)⟩)
  dsimp only [Pt.U, Pt.locs, Pt.cells, Pt.slots] at X102 l102 y102 z102 st102 hQ102
  subst l102 y102 z102
  unfold Q_rm12 at hQ102
  obtain ⟨rfl, N102q, e102⟩ := hQ102
  have N102 := Fr.app N0 N102q
  obtain ⟨T103, X103, e103, st103⟩ := getF X102 hx hZ hown (host := "") (Or.inl (hwk hw 33 rfl)) Via.refl e102 GN (g := (mkF m 34 #[.val (.ref a1), .val (.ref k2), .val (.ref s3), .val (.int p4), .val (.int p5), .val (.int (0 : Int32))] [(.ref a1)])) rfl rfl (hb hby d11_34)
  obtain ⟨T104, h104, X104, e104, E104, A104, D104, -, st104⟩ := newO X103 hx hZ hown (hwk hw 127 rfl) (hwk hw 128 rfl) (hwk hw 129 rfl) e103 (g := (mkF m 37 #[.val (.ref a1), .val (.ref k2), .val (.ref s3), .val (.int p4), .val (.int p5), .val (.int (0 : Int32))] [(.ref l1)])) rfl (hb hby d11_37) (by decide) (by decide)
  obtain ⟨b104, g104⟩ : ∃ z, z = h0.size := ⟨_, rfl⟩
  rw [← g104] at A104 D104 st104
  have g_b104 : n0 ≤ b104 := Nat.le_trans (old_le O0) (Nat.le_of_eq g104.symm)
  have O105 : Old Z n0 h104 := Old.ext O0 E104
  obtain ⟨_, _, ⟨T106, L106, k106, n106⟩, -, X106, ⟨Lc106, hQ106, l106, y106, z106⟩, st106⟩ := own_specialRef X104 hx (y := (⟨"com/example/fixlore/fixlore/lang/GraphBuilder$Draft", "<init>", "(Lcom/example/fixlore/fixlore/lang/SemanticGraph$Kind;Ljava/lang/String;III)V"⟩ : MethodName)) rfl hown (own_mvRef hZ (by decide) (hwk hw 131 rfl) (hwk hw 130 rfl)) (mvT hZ (hwk hw 131 rfl)) (mvT hZ (hwk hw 132 rfl)) (by decide) (backOf (W := 2) (rm13 l Z a0 hw [] b104 k2 s3 p4 p5 (0 : Int32) wd h104 n0 O105 A104 g_b104 (show Fld Z h104 b104 "com/example/fixlore/fixlore/lang/GraphBuilder$Draft" "steps" "Ljava/util/List;" .null from D104 (Or.inr (hwk hw 137 rfl)) (ty := (.object "java/util/List")) (by decide)) (show Fld Z h104 b104 "com/example/fixlore/fixlore/lang/GraphBuilder$Draft" "kind" "Lcom/example/fixlore/fixlore/lang/SemanticGraph$Kind;" .null from D104 (Or.inl (hwk hw 139 rfl)) (ty := (.object "com/example/fixlore/fixlore/lang/SemanticGraph$Kind")) (by decide)) (show Fld Z h104 b104 "com/example/fixlore/fixlore/lang/GraphBuilder$Draft" "label" "Ljava/lang/String;" .null from D104 (Or.inr (hwk hw 141 rfl)) (ty := (.object "java/lang/String")) (by decide)) (show Fld Z h104 b104 "com/example/fixlore/fixlore/lang/GraphBuilder$Draft" "line" "I" (.int (0 : Int32)) from D104 (Or.inr (hwk hw 143 rfl)) (ty := .int) (by decide)) (show Fld Z h104 b104 "com/example/fixlore/fixlore/lang/GraphBuilder$Draft" "column" "I" (.int (0 : Int32)) from D104 (Or.inr (hwk hw 145 rfl)) (ty := .int) (by decide)) (show Fld Z h104 b104 "com/example/fixlore/fixlore/lang/GraphBuilder$Draft" "tryPart" "I" (.int (0 : Int32)) from D104 (Or.inr (hwk hw 147 rfl)) (ty := .int) (by decide)) SD) hZ (hwk hw 132 rfl) (hwk hw 129 rfl) (by decide) (by decide)) (g := (mkF m 48 #[.val (.ref a1), .val (.ref k2), .val (.ref s3), .val (.int p4), .val (.int p5), .val (.int (0 : Int32))] [(.int (0 : Int32)), (.int p5), (.int p4), (.ref s3), (.ref k2), (.ref b104), (.ref b104), (.ref l1)])) rfl (by rw [hml]; rfl) (Steps.refl _) (a := b104) (argsL := [(.ref k2), (.ref s3), (.int p4), (.int p5), (.int (0 : Int32))]) (rest := [(.ref b104), (.ref l1)]) (lenOf pd_6 rfl) rfl (by show 2 * 0 + _ ≤ _; exact Nat.le_of_eq rfl) (hb hby d11_48) (fun _ _ => ⟨rfl, e104, (by decide : 1 + 1 ≤ _), (by decide : 6 + 3 ≤ _)⟩)
  dsimp only [Pt.U, Pt.locs, Pt.cells, Pt.slots] at X106 l106 y106 z106 st106 hQ106
  subst l106 y106 z106
  unfold Q_rm13 at hQ106
  obtain ⟨rfl, N106q, K106, f106_0⟩ := hQ106
  have N106 := Fr.app N102 N106q
  have c107 : Exa Z T106.heap l1 "java/util/ArrayList" := (Exa.keep (Exa.ext E104 LE) K106)
  have c108 : Fld Z T106.heap l1 "java/util/ArrayList" "elementData" "[Ljava/lang/Object;" (.ref t1) := (Fld.keep (Fld.ext E104 LD) K106 (ninS (ne_exa c107 f106_0 (by decide)) nin0))
  have c109 : Fld Z T106.heap l1 "java/util/ArrayList" "size" "I" (.int (1 : Int32)) := (Fld.keep (Fld.ext E104 LS) K106 (ninS (ne_exa c107 f106_0 (by decide)) nin0))
  have c110 : Fld Z T106.heap l1 "java/util/AbstractList" "modCount" "I" (.int m1) := (Fld.keep (Fld.ext E104 LM) K106 (ninS (ne_exa c107 f106_0 (by decide)) nin0))
  have c111 : Arv Z T106.heap t1 k1 (.object "java/lang/Object") (10 : Int32) [(.ref x0), .null, .null, .null, .null, .null, .null, .null, .null, .null] .null := (Arv.keep (LV.ext E104) K106 (ninS (Nat.ne_of_lt (Nat.lt_of_lt_of_le (LV).lt (Nat.le_of_eq g104.symm))) nin0))
  have O112 : Old Z n0 T106.heap := Old.keep O105 K106 (allS g_b104 all0)
  obtain ⟨cq113, kq113, q113a, q113b, q113c⟩ := isOf hZ (rfl : T106.heap = T106.heap) c107
  obtain ⟨_, _, ⟨T113, L113, k113, n113⟩, -, X113, ⟨Lc113, hQ113, l113, y113, z113⟩, st113⟩ := X106.interfaceBack hx (xi := (⟨"java/util/List", "add", "(Ljava/lang/Object;)Z"⟩ : MethodName)) (y := (⟨"java/util/ArrayList", "add", "(Ljava/lang/Object;)Z"⟩ : MethodName)) hown (mvT hZ (hwk hw 148 rfl)) (mvT hZ (hwk hw 149 rfl)) (mvT hZ (hwk hw 150 rfl)) (mvT hZ (hwk hw 151 rfl)) (mvT hZ (hwk hw 152 rfl)) (mvT hZ (hwk hw 153 rfl)) (mvT hZ (hwk hw 154 rfl)) (mvT hZ (hwk hw 155 rfl)) (by decide) (backOf (W := 0) (rm14_1D l Z a0 hw [] l1 b104 x0 m1 t1 k1 T106.heap n0 O112 c107 c108 c109 c110 c111 LO gl f106_0 gt nt) hZ (hwk hw 156 rfl) (hwk hw 11 rfl) (by decide) (by decide)) q113a q113b q113c (g := (mkF m 51 #[.val (.ref a1), .val (.ref k2), .val (.ref s3), .val (.int p4), .val (.int p5), .val (.int (0 : Int32))] [(.ref b104), (.ref l1)])) rfl (by rw [hml]; rfl) (Steps.refl _) (argsL := [(.ref b104)]) (rest := []) (lenOf pd_7 rfl) rfl (by show 2 * 0 + _ ≤ _; exact Nat.le_of_eq rfl) (hb hby d11_51) (fun _ _ => ⟨rfl, (rfl : T106.heap = T106.heap), (by decide : 2 + 0 ≤ _), (by decide : 9 + 0 ≤ _)⟩)
  dsimp only [Pt.U, Pt.locs, Pt.cells, Pt.slots] at X113 l113 y113 z113 st113 hQ113
  subst l113 y113 z113
  unfold Q_rm14_1D at hQ113
  obtain ⟨rfl, N113q, K113, f113_0, f113_1, f113_2, f113_3, f113_4, f113_5⟩ := hQ113
  have N113 := Fr.app N106 N113q
  have c114 : Fld Z T113.heap a1 "com/example/fixlore/fixlore/lang/GraphBuilder" "nodes" "Ljava/util/List;" (.ref l1) := (Fld.keep (Fld.keep (Fld.ext E104 GN) K106 (ninS (Nat.ne_of_lt (Nat.lt_of_lt_of_le (GE).lt (Nat.le_of_eq g104.symm))) nin0)) K113 (ninS na (ninS nta nin0)))
  obtain ⟨T115, X115, e115, st115⟩ := getF X113 hx hZ hown (host := "") (Or.inl (hwk hw 33 rfl)) Via.refl (rfl : T113.heap = T113.heap) c114 (g := (mkF m 58 #[.val (.ref a1), .val (.ref k2), .val (.ref s3), .val (.int p4), .val (.int p5), .val (.int (0 : Int32))] [(.ref a1)])) rfl rfl (hb hby d11_58)
  have O116 : Old Z n0 T113.heap := Old.keep O112 K113 (allS gl (allS gt all0))
  obtain ⟨cq117, kq117, q117a, q117b, q117c⟩ := isOf hZ e115 f113_0
  obtain ⟨_, _, ⟨T117, L117, k117, n117⟩, -, X117, ⟨Lc117, hQ117, l117, y117, z117⟩, st117⟩ := X115.interfaceBack hx (xi := (⟨"java/util/List", "size", "()I"⟩ : MethodName)) (y := (⟨"java/util/ArrayList", "size", "()I"⟩ : MethodName)) hown (mvT hZ (hwk hw 182 rfl)) (mvT hZ (hwk hw 183 rfl)) (mvT hZ (hwk hw 184 rfl)) (mvT hZ (hwk hw 185 rfl)) (mvT hZ (hwk hw 186 rfl)) (mvT hZ (hwk hw 187 rfl)) (mvT hZ (hwk hw 188 rfl)) (mvT hZ (hwk hw 155 rfl)) (by decide) (backOf (W := 0) (rm19 l Z a0 hw [] l1 (2 : Int32) T113.heap n0 O116 f113_2) hZ (hwk hw 189 rfl) (hwk hw 11 rfl) (by decide) (by decide)) q117a q117b q117c (g := (mkF m 61 #[.val (.ref a1), .val (.ref k2), .val (.ref s3), .val (.int p4), .val (.int p5), .val (.int (0 : Int32))] [(.ref l1)])) rfl (by rw [hml]; rfl) (Steps.refl _) (argsL := []) (rest := []) (lenOf pd_8 rfl) rfl (by show 2 * 0 + _ ≤ _; exact Nat.le_of_eq rfl) (hb hby d11_61) (fun _ _ => ⟨rfl, e115, (by decide : 2 + 0 ≤ _), (by decide : 9 + 0 ≤ _)⟩)
  dsimp only [Pt.U, Pt.locs, Pt.cells, Pt.slots] at X117 l117 y117 z117 st117 hQ117
  subst l117 y117 z117
  unfold Q_rm19 at hQ117
  obtain ⟨rfl, N117q, e117⟩ := hQ117
  have N117 := Fr.app N113 N117q
  have K118 : Keep h0 h104 [l1, t1] := Keep.ext (Keep.refl h0 [l1, t1]) E104
  have K119 : Keep h0 T106.heap [l1, t1] := Keep.trans K118 K106 (allS (Or.inr (Nat.le_trans (Nat.le_refl _) (Nat.le_of_eq g104.symm))) all0)
  have K120 : Keep h0 T113.heap [l1, t1] := Keep.trans K119 K113 (allS (Or.inl (List.mem_of_getElem? (i := 0) rfl)) (allS (Or.inl (List.mem_of_getElem? (i := 1) rfl)) all0))
  obtain ⟨fs, hr, hrun, hended, hW, hsame⟩ := X117.leave (v := some (.int (1 : Int32))) (fun h => by rw [Bd.returns] at h; cases h)
  refine ⟨_, _, pre0 _ ?_, hrun, hended, _, _, rfl, ?_, ⟨_, rfl⟩, hW, hsame.mono (by decide) (by decide)⟩
  · show Steps p.tables e below (s₁.setTop (mkF m 0 #[.val (.ref a1), .val (.ref k2), .val (.ref s3), .val (.int p4), .val (.int p5), .unset] [])) _
    refine XS.aloadN X0.here hx rfl (hb hby d11_0) rfl rfl ?_
    show Steps p.tables e below (s₁.setTop (mkF m 1 #[.val (.ref a1), .val (.ref k2), .val (.ref s3), .val (.int p4), .val (.int p5), .unset] [(.ref a1)])) _
    refine st101 _ ?_
    show Steps p.tables e below (T101.setTop (mkF m 4 #[.val (.ref a1), .val (.ref k2), .val (.ref s3), .val (.int p4), .val (.int p5), .unset] [(.ref d1)])) _
    refine st102.trans ?_
    show Steps p.tables e below (T102.setTop (mkF m 9 #[.val (.ref a1), .val (.ref k2), .val (.ref s3), .val (.int p4), .val (.int p5), .unset] [(.int (1 : Int32))])) _
    refine XS.ifNo X102.here hx rfl (hb hby d11_9) rfl ((if0 _ _).trans (feq (by decide : ¬ ((1 : Int32) = (0 : Int32)))).1) ?_
    show Steps p.tables e below (T102.setTop (mkF m 12 #[.val (.ref a1), .val (.ref k2), .val (.ref s3), .val (.int p4), .val (.int p5), .unset] [])) _
    refine XS.iconst X102.here hx rfl (hb hby d11_12) ?_
    refine XS.goto X102.here hx rfl (pc0 := 13) (pc' := 31) rfl (hb hby d11_13) (by decide) (by decide) ?_
    show Steps p.tables e below (T102.setTop (mkF m 31 #[.val (.ref a1), .val (.ref k2), .val (.ref s3), .val (.int p4), .val (.int p5), .unset] [(.int (0 : Int32))])) _
    refine XS.istore X102.here hx rfl (hb hby d11_31) rfl (l' := #[.val (.ref a1), .val (.ref k2), .val (.ref s3), .val (.int p4), .val (.int p5), .val (.int (0 : Int32))]) rfl ?_
    show Steps p.tables e below (T102.setTop (mkF m 33 #[.val (.ref a1), .val (.ref k2), .val (.ref s3), .val (.int p4), .val (.int p5), .val (.int (0 : Int32))] [])) _
    refine XS.aloadN X102.here hx rfl (hb hby d11_33) rfl rfl ?_
    show Steps p.tables e below (T102.setTop (mkF m 34 #[.val (.ref a1), .val (.ref k2), .val (.ref s3), .val (.int p4), .val (.int p5), .val (.int (0 : Int32))] [(.ref a1)])) _
    refine st103 _ ?_
    show Steps p.tables e below (T103.setTop (mkF m 37 #[.val (.ref a1), .val (.ref k2), .val (.ref s3), .val (.int p4), .val (.int p5), .val (.int (0 : Int32))] [(.ref l1)])) _
    refine st104 _ ?_
    show Steps p.tables e below (T104.setTop (mkF m 40 #[.val (.ref a1), .val (.ref k2), .val (.ref s3), .val (.int p4), .val (.int p5), .val (.int (0 : Int32))] [(.ref b104), (.ref l1)])) _
    refine XS.dup X104.here hx rfl (hb hby d11_40) rfl rfl ?_
    show Steps p.tables e below (T104.setTop (mkF m 41 #[.val (.ref a1), .val (.ref k2), .val (.ref s3), .val (.int p4), .val (.int p5), .val (.int (0 : Int32))] [(.ref b104), (.ref b104), (.ref l1)])) _
    refine XS.aloadN X104.here hx rfl (hb hby d11_41) rfl rfl ?_
    refine XS.aloadN X104.here hx rfl (hb hby d11_42) rfl rfl ?_
    refine XS.iloadN X104.here hx rfl (hb hby d11_43) rfl ?_
    refine XS.iload X104.here hx rfl (hb hby d11_44) rfl ?_
    show Steps p.tables e below (T104.setTop (mkF m 46 #[.val (.ref a1), .val (.ref k2), .val (.ref s3), .val (.int p4), .val (.int p5), .val (.int (0 : Int32))] [(.int p5), (.int p4), (.ref s3), (.ref k2), (.ref b104), (.ref b104), (.ref l1)])) _
    refine XS.iload X104.here hx rfl (hb hby d11_46) rfl ?_
    show Steps p.tables e below (T104.setTop (mkF m 48 #[.val (.ref a1), .val (.ref k2), .val (.ref s3), .val (.int p4), .val (.int p5), .val (.int (0 : Int32))] [(.int (0 : Int32)), (.int p5), (.int p4), (.ref s3), (.ref k2), (.ref b104), (.ref b104), (.ref l1)])) _
    refine st106.trans ?_
    show Steps p.tables e below (T106.setTop (mkF m 51 #[.val (.ref a1), .val (.ref k2), .val (.ref s3), .val (.int p4), .val (.int p5), .val (.int (0 : Int32))] [(.ref b104), (.ref l1)])) _
    refine st113.trans ?_
    show Steps p.tables e below (T113.setTop (mkF m 56 #[.val (.ref a1), .val (.ref k2), .val (.ref s3), .val (.int p4), .val (.int p5), .val (.int (0 : Int32))] [(.int (1 : Int32))])) _
    refine XS.pop X113.here hx rfl (hb hby d11_56) rfl rfl ?_
    show Steps p.tables e below (T113.setTop (mkF m 57 #[.val (.ref a1), .val (.ref k2), .val (.ref s3), .val (.int p4), .val (.int p5), .val (.int (0 : Int32))] [])) _
    refine XS.aloadN X113.here hx rfl (hb hby d11_57) rfl rfl ?_
    show Steps p.tables e below (T113.setTop (mkF m 58 #[.val (.ref a1), .val (.ref k2), .val (.ref s3), .val (.int p4), .val (.int p5), .val (.int (0 : Int32))] [(.ref a1)])) _
    refine st115 _ ?_
    show Steps p.tables e below (T115.setTop (mkF m 61 #[.val (.ref a1), .val (.ref k2), .val (.ref s3), .val (.int p4), .val (.int p5), .val (.int (0 : Int32))] [(.ref l1)])) _
    refine st117.trans ?_
    show Steps p.tables e below (T117.setTop (mkF m 66 #[.val (.ref a1), .val (.ref k2), .val (.ref s3), .val (.int p4), .val (.int p5), .val (.int (0 : Int32))] [(.int (2 : Int32))])) _
    refine XS.iconst X117.here hx rfl (hb hby d11_66) ?_
    refine XS.isub X117.here hx rfl (hb hby d11_67) rfl ?_
    show Steps p.tables e below (T117.setTop (mkF m 68 #[.val (.ref a1), .val (.ref k2), .val (.ref s3), .val (.int p4), .val (.int p5), .val (.int (0 : Int32))] [(.int ((2 : Int32) - (1 : Int32)))])) _
    rw [show ((2 : Int32) - (1 : Int32)) = (1 : Int32) from by decide]
    show Steps p.tables e below (T117.setTop (mkF m 68 #[.val (.ref a1), .val (.ref k2), .val (.ref s3), .val (.int p4), .val (.int p5), .val (.int (0 : Int32))] [(.int (1 : Int32))])) _
    exact Jvm.RoadKit.retOut X117 hx Bd.returns rfl (Or.inl ⟨rfl, by simp, _, rfl⟩) (hb hby d11_68) hr
  · show Q_rm11_1 Z a1 k2 s3 p4 p5 d1 l1 x0 m1 wd kd vd t1 k1 h0 n0 _ T117.heap _
    rw [e117]
    unfold Q_rm11_1
    exact ⟨b104, rfl, N117, K120, (Nat.le_trans (Nat.le_refl _) (Nat.le_of_eq g104.symm)), f113_0, f113_1, f113_2, f113_3, f113_4, LO⟩
theorem ef_rm23 (m : MethodId) (x0 : Addr) : entryFrame m #[(.ref x0)] 1 = mkF m 0 #[.val (.ref x0)] [] := by first | (simp [entryFrame, mkF, argsToLocals, Value.category]; done) | rfl
def Q_rm23 (Z : State) (a1 : Addr) (h0 : Heap) (n0 : Nat) (v : Option Value) (h : Heap) (L : List Loc) : Prop := (v = none) ∧ (Fr n0 L) ∧ (h = h0)
theorem pn_10 : plainName "java/lang/Record" = true := by first | (simp [plainName, overriddenIn]; done) | decide +kernel
theorem d23_0 : decode jdk_30_method_1_code 0 = .ok (.aload_n 0, 1) := by decide +kernel
theorem d23_1 : decode jdk_30_method_1_code 1 = .ok (.invokespecial 1, 3) := by decide +kernel
theorem d23_4 : decode jdk_30_method_1_code 4 = .ok (.return_, 1) := by decide +kernel
set_option maxRecDepth 65536 in
set_option maxHeartbeats 40000000 in
theorem rm23 (l : Launch) (Z : State) (a0 : Array Value) (hw : ∀ d ∈ tables_1, d.before a0 Z = true) (ws : List Jvm.Cond) (a1 : Addr) (h0 : Heap) (n0 : Nat) (O0 : Old Z n0 h0)  :
    MetFree l (⟨"java/lang/Record", "<init>", "()V"⟩ : MethodName) (head1 (Jvm.Cond.code (⟨"java/lang/Record", "<init>", "()V"⟩ : MethodName) jdk_30_method_1_code 1 none :: ws) ({ frames := 1, cells := 0, slots := 0, locals := 12 } : Room)) (fun a U => a = #[(.ref a1)] ∧ Z.Warmed39 U.vm ∧ U.heap = h0) (fun _ _ _ _ _ => True) (fun _ U o U' => ∃ v L, o = .returned v ∧ Q_rm23 Z a1 h0 n0 v U'.heap L ∧ FrameEnd U o U' L ({ frames := 1, cells := 0, slots := 0, locals := 12 } : Room).cells ({ frames := 1, cells := 0, slots := 0, locals := 12 } : Room).slots) := by
  refine MetFree.of_bodySF (plainFor_of_name pn_10) hisR ?_
  intro p e s m args below meth c s₁ Bd hml0 hP hK
  obtain ⟨rfl, hZ, hh⟩ := hP
  have hx := Bd.exec
  have hby := Bd.bytes
  have hml : c.maxLocals = 1 := hml0
  have hown : s.vm.findClass "java/lang/Record" = some m.cls := findClass_of_methodNamed Bd.named
  have hnm := (name_of_methodNamed Bd.named Bd.method).1
  have X0 : Stand p l e ({ frames := 1, cells := 0, slots := 0, locals := 12 } : Room) s m #[(.ref a1)] below meth c s₁ [] 0 0 := Stand.of_body Bd
  have e0 : s₁.heap = h0 := by rw [← hh, Bd.state]; rfl
  have N0 := Fr.nil n0
  have Z0 : n0 ≤ h0.size := old_le O0
  have pre0 : ∀ t, Steps p.tables e below (s₁.setTop (mkF m 0 #[.val (.ref a1)] [])) t → Steps p.tables e below (s₁.setTop (entryFrame m #[(.ref a1)] 1)) t := fun t k => castTop (ef_rm23 m a1) k
  obtain ⟨T101, X101, e101, st101⟩ := initO X0 hx hZ hown (hwk hw 216 rfl) (hwk hw 7 rfl) (hwk hw 8 rfl) e0 (g := (mkF m 1 #[.val (.ref a1)] [(.ref a1)])) rfl (by rw [hml]; rfl) rfl (hb hby d23_1) (by decide) (W := 0) (by show 2 * 0 + _ ≤ _; exact Nat.le_of_eq rfl) (by decide)
  obtain ⟨fs, hr, hrun, hended, hW, hsame⟩ := X101.leave (v := none) (fun _ => rfl)
  refine ⟨_, _, pre0 _ ?_, hrun, hended, _, _, rfl, ?_, ⟨_, rfl⟩, hW, hsame.mono (by decide) (by decide)⟩
  · show Steps p.tables e below (s₁.setTop (mkF m 0 #[.val (.ref a1)] [])) _
    refine XS.aloadN X0.here hx rfl (hb hby d23_0) rfl rfl ?_
    show Steps p.tables e below (s₁.setTop (mkF m 1 #[.val (.ref a1)] [(.ref a1)])) _
    refine st101 _ ?_
    show Steps p.tables e below (T101.setTop (mkF m 4 #[.val (.ref a1)] [])) _
    exact X101.returnOut hx Bd.returns (hb hby d23_4) hr
  · show Q_rm23 Z a1 h0 n0 _ T101.heap _
    rw [e101]
    unfold Q_rm23
    exact ⟨rfl, N0, rfl⟩
theorem ef_rm22 (m : MethodId) (x0 : Addr) (x1 : Int32) (x2 : Value) (hr2 : x2.isRef = true) : entryFrame m #[(.ref x0), (.int x1), x2] 3 = mkF m 0 #[.val (.ref x0), .val (.int x1), .val x2] [] := by rcases ref_cases hr2 with rfl | ⟨y2, rfl⟩ <;> first | (simp [entryFrame, mkF, argsToLocals, Value.category]; done) | rfl
def Q_rm22 (Z : State) (a1 : Addr) (p1 : Int32) (v2 : Value) (h0 : Heap) (n0 : Nat) (v : Option Value) (h : Heap) (L : List Loc) : Prop := (v = none) ∧ (Fr n0 L) ∧ (Keep h0 h [a1]) ∧ (Exa Z h a1 "com/example/fixlore/fixlore/lang/GraphBuilder$End") ∧ (Fld Z h a1 "com/example/fixlore/fixlore/lang/GraphBuilder$End" "from" "I" (.int p1)) ∧ (Fld Z h a1 "com/example/fixlore/fixlore/lang/GraphBuilder$End" "branch" "Ljava/lang/String;" v2)
theorem pn_11 : plainName "com/example/fixlore/fixlore/lang/GraphBuilder$End" = true := by first | (simp [plainName, overriddenIn]; done) | decide +kernel
theorem d22_0 : decode prog_28_method_1_code 0 = .ok (.aload_n 0, 1) := by decide +kernel
theorem d22_1 : decode prog_28_method_1_code 1 = .ok (.invokespecial 1, 3) := by decide +kernel
theorem d22_4 : decode prog_28_method_1_code 4 = .ok (.aload_n 0, 1) := by decide +kernel
theorem d22_5 : decode prog_28_method_1_code 5 = .ok (.iload_n 1, 1) := by decide +kernel
theorem d22_6 : decode prog_28_method_1_code 6 = .ok (.putfield 7, 3) := by decide +kernel
theorem d22_9 : decode prog_28_method_1_code 9 = .ok (.aload_n 0, 1) := by decide +kernel
theorem d22_10 : decode prog_28_method_1_code 10 = .ok (.aload_n 2, 1) := by decide +kernel
theorem d22_11 : decode prog_28_method_1_code 11 = .ok (.putfield 13, 3) := by decide +kernel
theorem d22_14 : decode prog_28_method_1_code 14 = .ok (.return_, 1) := by decide +kernel
set_option maxRecDepth 65536 in
set_option maxHeartbeats 40000000 in
theorem rm22 (l : Launch) (Z : State) (a0 : Array Value) (hw : ∀ d ∈ tables_1, d.before a0 Z = true) (ws : List Jvm.Cond) (a1 : Addr) (p1 : Int32) (v2 : Value) (h0 : Heap) (n0 : Nat) (O0 : Old Z n0 h0) (E1 : Exa Z h0 a1 "com/example/fixlore/fixlore/lang/GraphBuilder$End") (g1 : n0 ≤ a1) (D0 : Fld Z h0 a1 "com/example/fixlore/fixlore/lang/GraphBuilder$End" "from" "I" (.int (0 : Int32))) (D1 : Fld Z h0 a1 "com/example/fixlore/fixlore/lang/GraphBuilder$End" "branch" "Ljava/lang/String;" .null) (hv2 : v2.isRef = true) :
    MetFree l (⟨"com/example/fixlore/fixlore/lang/GraphBuilder$End", "<init>", "(ILjava/lang/String;)V"⟩ : MethodName) (head1 (Jvm.Cond.code (⟨"com/example/fixlore/fixlore/lang/GraphBuilder$End", "<init>", "(ILjava/lang/String;)V"⟩ : MethodName) prog_28_method_1_code 3 none :: ws) ({ frames := 2, cells := 0, slots := 0, locals := 24 } : Room)) (fun a U => a = #[(.ref a1), (.int p1), v2] ∧ Z.Warmed39 U.vm ∧ U.heap = h0) (fun _ _ _ _ _ => True) (fun _ U o U' => ∃ v L, o = .returned v ∧ Q_rm22 Z a1 p1 v2 h0 n0 v U'.heap L ∧ FrameEnd U o U' L ({ frames := 2, cells := 0, slots := 0, locals := 24 } : Room).cells ({ frames := 2, cells := 0, slots := 0, locals := 24 } : Room).slots) := by
  refine MetFree.of_bodySF (plainFor_of_name pn_11) hisR ?_
  intro p e s m args below meth c s₁ Bd hml0 hP hK
  obtain ⟨rfl, hZ, hh⟩ := hP
  have hx := Bd.exec
  have hby := Bd.bytes
  have hml : c.maxLocals = 3 := hml0
  have hown : s.vm.findClass "com/example/fixlore/fixlore/lang/GraphBuilder$End" = some m.cls := findClass_of_methodNamed Bd.named
  have hnm := (name_of_methodNamed Bd.named Bd.method).1
  have X0 : Stand p l e ({ frames := 2, cells := 0, slots := 0, locals := 24 } : Room) s m #[(.ref a1), (.int p1), v2] below meth c s₁ [] 0 0 := Stand.of_body Bd
  have e0 : s₁.heap = h0 := by rw [← hh, Bd.state]; rfl
  have N0 := Fr.nil n0
  have Z0 : n0 ≤ h0.size := old_le O0
  have pre0 : ∀ t, Steps p.tables e below (s₁.setTop (mkF m 0 #[.val (.ref a1), .val (.int p1), .val v2] [])) t → Steps p.tables e below (s₁.setTop (entryFrame m #[(.ref a1), (.int p1), v2] 3)) t := fun t k => castTop (ef_rm22 m a1 p1 v2 hv2) k
  obtain ⟨_, _, ⟨T101, L101, k101, n101⟩, -, X101, ⟨Lc101, hQ101, l101, y101, z101⟩, st101⟩ := X0.specialBack hx (y := (⟨"java/lang/Record", "<init>", "()V"⟩ : MethodName)) rfl hown (mvT hZ (hwk hw 211 rfl)) (mvT hZ (hwk hw 212 rfl)) (mvT hZ (hwk hw 215 rfl)) (by decide) (backOf (W := 0) (rm23 l Z a0 hw [] a1 h0 n0 O0 ) hZ (hwk hw 215 rfl) (hwk hw 214 rfl) (by decide) (by decide)) (g := (mkF m 1 #[.val (.ref a1), .val (.int p1), .val v2] [(.ref a1)])) rfl (by rw [hml]; rfl) (Steps.refl _) (a := a1) (argsL := []) (rest := []) (lenOf pd_0 rfl) rfl (by show 2 * 0 + _ ≤ _; exact Nat.le_of_eq rfl) (hb hby d22_1) (fun _ _ => ⟨rfl, e0, (by decide : 0 + 0 ≤ _), (by decide : 0 + 0 ≤ _)⟩)
  dsimp only [Pt.U, Pt.locs, Pt.cells, Pt.slots] at X101 l101 y101 z101 st101 hQ101
  subst l101 y101 z101
  unfold Q_rm23 at hQ101
  obtain ⟨rfl, N101q, e101⟩ := hQ101
  have N101 := Fr.app N0 N101q
  obtain ⟨T102, h102, X102, e102, W102, st102⟩ := putF X101 hx hZ hown (host := "") (Or.inl (hwk hw 217 rfl)) Via.refl e101 D0 E1 (Or.inr ⟨(hwk hw 218 rfl), rfl, hnm⟩) (hwk hw 206 rfl) (ty := .int) (by decide) rfl rfl (g := (mkF m 6 #[.val (.ref a1), .val (.int p1), .val v2] [(.int p1), (.ref a1)])) rfl rfl (hb hby d22_6)
  have F102 : Fld Z h102 a1 "com/example/fixlore/fixlore/lang/GraphBuilder$End" "from" "I" (.int p1) := Fld.same W102 D0
  have N102 := Fr.snoc X102 N101 g1
  have c103 : Exa Z h102 a1 "com/example/fixlore/fixlore/lang/GraphBuilder$End" := (Exa.wr W102 E1)
  have c104 : Fld Z h102 a1 "com/example/fixlore/fixlore/lang/GraphBuilder$End" "branch" "Ljava/lang/String;" .null := (Fld.other W102 D1 (Or.inr (slot_ne (Or.inr (hwk hw 220 rfl)) (Or.inr (hwk hw 218 rfl)) (by decide) (t := (.object "java/lang/String")) (t' := .int) (by decide) (by decide))))
  obtain ⟨T105, h105, X105, e105, W105, st105⟩ := putF X102 hx hZ hown (host := "") (Or.inl (hwk hw 219 rfl)) Via.refl e102 c104 c103 (Or.inr ⟨(hwk hw 220 rfl), rfl, hnm⟩) (hwk hw 206 rfl) (ty := (.object "java/lang/String")) (by decide) (narrow_refV rfl hv2) (fits_refV rfl hv2) (g := (mkF m 11 #[.val (.ref a1), .val (.int p1), .val v2] [v2, (.ref a1)])) rfl rfl (hb hby d22_11)
  have F105 : Fld Z h105 a1 "com/example/fixlore/fixlore/lang/GraphBuilder$End" "branch" "Ljava/lang/String;" v2 := Fld.same W105 c104
  have N105 := Fr.snoc X105 N102 g1
  have K106 : Keep h0 h102 [a1] := Keep.wr (Keep.refl h0 [a1]) W102 (Or.inl (List.mem_of_getElem? (i := 0) rfl))
  have K107 : Keep h0 h105 [a1] := Keep.wr K106 W105 (Or.inl (List.mem_of_getElem? (i := 0) rfl))
  have c108 : Exa Z h105 a1 "com/example/fixlore/fixlore/lang/GraphBuilder$End" := (Exa.wr W105 c103)
  have c109 : Fld Z h105 a1 "com/example/fixlore/fixlore/lang/GraphBuilder$End" "from" "I" (.int p1) := (Fld.other W105 F102 (Or.inr (slot_ne (Or.inr (hwk hw 218 rfl)) (Or.inr (hwk hw 220 rfl)) (by decide) (t := .int) (t' := (.object "java/lang/String")) (by decide) (by decide))))
  obtain ⟨fs, hr, hrun, hended, hW, hsame⟩ := X105.leave (v := none) (fun _ => rfl)
  refine ⟨_, _, pre0 _ ?_, hrun, hended, _, _, rfl, ?_, ⟨_, rfl⟩, hW, hsame.mono (by decide) (by decide)⟩
  · show Steps p.tables e below (s₁.setTop (mkF m 0 #[.val (.ref a1), .val (.int p1), .val v2] [])) _
    refine XS.aloadN X0.here hx rfl (hb hby d22_0) rfl rfl ?_
    show Steps p.tables e below (s₁.setTop (mkF m 1 #[.val (.ref a1), .val (.int p1), .val v2] [(.ref a1)])) _
    refine st101.trans ?_
    show Steps p.tables e below (T101.setTop (mkF m 4 #[.val (.ref a1), .val (.int p1), .val v2] [])) _
    refine XS.aloadN X101.here hx rfl (hb hby d22_4) rfl rfl ?_
    refine XS.iloadN X101.here hx rfl (hb hby d22_5) rfl ?_
    show Steps p.tables e below (T101.setTop (mkF m 6 #[.val (.ref a1), .val (.int p1), .val v2] [(.int p1), (.ref a1)])) _
    refine st102 _ ?_
    show Steps p.tables e below (T102.setTop (mkF m 9 #[.val (.ref a1), .val (.int p1), .val v2] [])) _
    refine XS.aloadN X102.here hx rfl (hb hby d22_9) rfl rfl ?_
    refine XS.aloadN X102.here hx rfl (hb hby d22_10) rfl hv2 ?_
    show Steps p.tables e below (T102.setTop (mkF m 11 #[.val (.ref a1), .val (.int p1), .val v2] [v2, (.ref a1)])) _
    refine st105 _ ?_
    show Steps p.tables e below (T105.setTop (mkF m 14 #[.val (.ref a1), .val (.int p1), .val v2] [])) _
    exact X105.returnOut hx Bd.returns (hb hby d22_14) hr
  · show Q_rm22 Z a1 p1 v2 h0 n0 _ T105.heap _
    rw [e105]
    unfold Q_rm22
    exact ⟨rfl, N105, K107, c108, c109, F105⟩
theorem ef_rm21_0 (m : MethodId) (x0 : Addr) (x1 : Int32) (x2 : Value) (hr2 : x2.isRef = true) : entryFrame m #[(.ref x0), (.int x1), x2] 3 = mkF m 0 #[.val (.ref x0), .val (.int x1), .val x2] [] := by rcases ref_cases hr2 with rfl | ⟨y2, rfl⟩ <;> first | (simp [entryFrame, mkF, argsToLocals, Value.category]; done) | rfl
def Q_rm21_0 (Z : State) (a1 : Addr) (p1 : Int32) (v2 : Value) (l1 : Addr) (m1 : Int32) (wd : Addr) (kd : ClassId) (vd : List Value) (h0 : Heap) (n0 : Nat) (v : Option Value) (h : Heap) (L : List Loc) : Prop := ∃ e : Addr, ∃ t : Addr, ∃ k : ClassId, (v = none) ∧ (Fr n0 L) ∧ (Keep h0 h [l1]) ∧ (h0.size ≤ e) ∧ (h0.size ≤ t) ∧ (Exa Z h l1 "java/util/ArrayList") ∧ (Fld Z h l1 "java/util/ArrayList" "elementData" "[Ljava/lang/Object;" (.ref t)) ∧ (Fld Z h l1 "java/util/ArrayList" "size" "I" (.int (1 : Int32))) ∧ (Fld Z h l1 "java/util/AbstractList" "modCount" "I" (.int (m1 + (1 : Int32)))) ∧ (Arv Z h t k (.object "java/lang/Object") (10 : Int32) [(.ref e), .null, .null, .null, .null, .null, .null, .null, .null, .null] .null) ∧ (Ovr Z k "java/lang/Object") ∧ (Exa Z h e "com/example/fixlore/fixlore/lang/GraphBuilder$End") ∧ (Fld Z h e "com/example/fixlore/fixlore/lang/GraphBuilder$End" "from" "I" (.int p1)) ∧ (Fld Z h e "com/example/fixlore/fixlore/lang/GraphBuilder$End" "branch" "Ljava/lang/String;" v2) ∧ (t ≠ l1)
theorem d21_0 : decode prog_26_method_17_code 0 = .ok (.aload_n 0, 1) := by decide +kernel
theorem d21_1 : decode prog_26_method_17_code 1 = .ok (.getfield 49, 3) := by decide +kernel
theorem d21_4 : decode prog_26_method_17_code 4 = .ok (.new 182, 3) := by decide +kernel
theorem d21_7 : decode prog_26_method_17_code 7 = .ok (.dup, 1) := by decide +kernel
theorem d21_8 : decode prog_26_method_17_code 8 = .ok (.iload_n 1, 1) := by decide +kernel
theorem d21_9 : decode prog_26_method_17_code 9 = .ok (.aload_n 2, 1) := by decide +kernel
theorem d21_10 : decode prog_26_method_17_code 10 = .ok (.invokespecial 184, 3) := by decide +kernel
theorem pd_9 : parseMethodDescriptor "(ILjava/lang/String;)V" = some ⟨[.int, (.object "java/lang/String")], none⟩ := by decide +kernel
theorem d21_13 : decode prog_26_method_17_code 13 = .ok (.invokeinterface 97 2, 5) := by decide +kernel
theorem d21_18 : decode prog_26_method_17_code 18 = .ok (.pop, 1) := by decide +kernel
theorem d21_19 : decode prog_26_method_17_code 19 = .ok (.return_, 1) := by decide +kernel
set_option maxRecDepth 65536 in
set_option maxHeartbeats 40000000 in
theorem rm21_0 (l : Launch) (Z : State) (a0 : Array Value) (hw : ∀ d ∈ tables_1, d.before a0 Z = true) (ws : List Jvm.Cond) (a1 : Addr) (p1 : Int32) (v2 : Value) (l1 : Addr) (m1 : Int32) (wd : Addr) (kd : ClassId) (vd : List Value) (h0 : Heap) (n0 : Nat) (O0 : Old Z n0 h0) (GP : Fld Z h0 a1 "com/example/fixlore/fixlore/lang/GraphBuilder" "pending" "Ljava/util/List;" (.ref l1)) (LE : Exa Z h0 l1 "java/util/ArrayList") (LD : Fld Z h0 l1 "java/util/ArrayList" "elementData" "[Ljava/lang/Object;" (.ref wd)) (LS : Fld Z h0 l1 "java/util/ArrayList" "size" "I" (.int (0 : Int32))) (LM : Fld Z h0 l1 "java/util/AbstractList" "modCount" "I" (.int m1)) (gl : n0 ≤ l1) (na : a1 ≠ l1) (SD : Sta Z Z.heap "java/util/ArrayList" "DEFAULTCAPACITY_EMPTY_ELEMENTDATA" "[Ljava/lang/Object;" (.ref wd)) (VD : Arv Z Z.heap wd kd (.object "java/lang/Object") (0 : Int32) vd .null) (hv2 : v2.isRef = true) :
    MetFree l (⟨"com/example/fixlore/fixlore/lang/GraphBuilder", "join", "(ILjava/lang/String;)V"⟩ : MethodName) (head1 (Jvm.Cond.code (⟨"com/example/fixlore/fixlore/lang/GraphBuilder", "join", "(ILjava/lang/String;)V"⟩ : MethodName) prog_26_method_17_code 3 none :: ws) ({ frames := 5, cells := 2, slots := 12, locals := 69 } : Room)) (fun a U => a = #[(.ref a1), (.int p1), v2] ∧ Z.Warmed39 U.vm ∧ U.heap = h0) (fun _ _ _ _ _ => True) (fun _ U o U' => ∃ v L, o = .returned v ∧ Q_rm21_0 Z a1 p1 v2 l1 m1 wd kd vd h0 n0 v U'.heap L ∧ FrameEnd U o U' L ({ frames := 5, cells := 2, slots := 12, locals := 69 } : Room).cells ({ frames := 5, cells := 2, slots := 12, locals := 69 } : Room).slots) := by
  refine MetFree.of_bodySF (plainFor_of_name pn_9) hisR ?_
  intro p e s m args below meth c s₁ Bd hml0 hP hK
  obtain ⟨rfl, hZ, hh⟩ := hP
  have hx := Bd.exec
  have hby := Bd.bytes
  have hml : c.maxLocals = 3 := hml0
  have hown : s.vm.findClass "com/example/fixlore/fixlore/lang/GraphBuilder" = some m.cls := findClass_of_methodNamed Bd.named
  have hnm := (name_of_methodNamed Bd.named Bd.method).1
  have X0 : Stand p l e ({ frames := 5, cells := 2, slots := 12, locals := 69 } : Room) s m #[(.ref a1), (.int p1), v2] below meth c s₁ [] 0 0 := Stand.of_body Bd
  have e0 : s₁.heap = h0 := by rw [← hh, Bd.state]; rfl
  have N0 := Fr.nil n0
  have Z0 : n0 ≤ h0.size := old_le O0
  have pre0 : ∀ t, Steps p.tables e below (s₁.setTop (mkF m 0 #[.val (.ref a1), .val (.int p1), .val v2] [])) t → Steps p.tables e below (s₁.setTop (entryFrame m #[(.ref a1), (.int p1), v2] 3)) t := fun t k => castTop (ef_rm21_0 m a1 p1 v2 hv2) k
  obtain ⟨T101, X101, e101, st101⟩ := getF X0 hx hZ hown (host := "") (Or.inl (hwk hw 96 rfl)) Via.refl e0 GP (g := (mkF m 1 #[.val (.ref a1), .val (.int p1), .val v2] [(.ref a1)])) rfl rfl (hb hby d21_1)
  obtain ⟨T102, h102, X102, e102, E102, A102, D102, -, st102⟩ := newO X101 hx hZ hown (hwk hw 205 rfl) (hwk hw 206 rfl) (hwk hw 207 rfl) e101 (g := (mkF m 4 #[.val (.ref a1), .val (.int p1), .val v2] [(.ref l1)])) rfl (hb hby d21_4) (by decide) (by decide)
  obtain ⟨b102, g102⟩ : ∃ z, z = h0.size := ⟨_, rfl⟩
  rw [← g102] at A102 D102 st102
  have g_b102 : n0 ≤ b102 := Nat.le_trans (old_le O0) (Nat.le_of_eq g102.symm)
  have O103 : Old Z n0 h102 := Old.ext O0 E102
  obtain ⟨_, _, ⟨T104, L104, k104, n104⟩, -, X104, ⟨Lc104, hQ104, l104, y104, z104⟩, st104⟩ := X102.specialBack hx (y := (⟨"com/example/fixlore/fixlore/lang/GraphBuilder$End", "<init>", "(ILjava/lang/String;)V"⟩ : MethodName)) rfl hown (mvT hZ (hwk hw 208 rfl)) (mvT hZ (hwk hw 209 rfl)) (mvT hZ (hwk hw 210 rfl)) (by decide) (backOf (W := 2) (rm22 l Z a0 hw [] b102 p1 v2 h102 n0 O103 A102 g_b102 (show Fld Z h102 b102 "com/example/fixlore/fixlore/lang/GraphBuilder$End" "from" "I" (.int (0 : Int32)) from D102 (Or.inr (hwk hw 218 rfl)) (ty := .int) (by decide)) (show Fld Z h102 b102 "com/example/fixlore/fixlore/lang/GraphBuilder$End" "branch" "Ljava/lang/String;" .null from D102 (Or.inr (hwk hw 220 rfl)) (ty := (.object "java/lang/String")) (by decide)) hv2) hZ (hwk hw 210 rfl) (hwk hw 207 rfl) (by decide) (by decide)) (g := (mkF m 10 #[.val (.ref a1), .val (.int p1), .val v2] [v2, (.int p1), (.ref b102), (.ref b102), (.ref l1)])) rfl (by rw [hml]; rfl) (Steps.refl _) (a := b102) (argsL := [(.int p1), v2]) (rest := [(.ref b102), (.ref l1)]) (lenOf pd_9 rfl) rfl (by show 2 * 0 + _ ≤ _; exact Nat.le_of_eq rfl) (hb hby d21_10) (fun _ _ => ⟨rfl, e102, (by decide : 1 + 0 ≤ _), (by decide : 2 + 0 ≤ _)⟩)
  dsimp only [Pt.U, Pt.locs, Pt.cells, Pt.slots] at X104 l104 y104 z104 st104 hQ104
  subst l104 y104 z104
  unfold Q_rm22 at hQ104
  obtain ⟨rfl, N104q, K104, f104_0, f104_1, f104_2⟩ := hQ104
  have N104 := Fr.app N0 N104q
  have c105 : Exa Z T104.heap l1 "java/util/ArrayList" := (Exa.keep (Exa.ext E102 LE) K104)
  have c106 : Fld Z T104.heap l1 "java/util/ArrayList" "elementData" "[Ljava/lang/Object;" (.ref wd) := (Fld.keep (Fld.ext E102 LD) K104 (ninS (ne_exa c105 f104_0 (by decide)) nin0))
  have c107 : Fld Z T104.heap l1 "java/util/ArrayList" "size" "I" (.int (0 : Int32)) := (Fld.keep (Fld.ext E102 LS) K104 (ninS (ne_exa c105 f104_0 (by decide)) nin0))
  have c108 : Fld Z T104.heap l1 "java/util/AbstractList" "modCount" "I" (.int m1) := (Fld.keep (Fld.ext E102 LM) K104 (ninS (ne_exa c105 f104_0 (by decide)) nin0))
  have O109 : Old Z n0 T104.heap := Old.keep O103 K104 (allS g_b102 all0)
  obtain ⟨cq110, kq110, q110a, q110b, q110c⟩ := isOf hZ (rfl : T104.heap = T104.heap) c105
  obtain ⟨_, _, ⟨T110, L110, k110, n110⟩, -, X110, ⟨Lc110, hQ110, l110, y110, z110⟩, st110⟩ := X104.interfaceBack hx (xi := (⟨"java/util/List", "add", "(Ljava/lang/Object;)Z"⟩ : MethodName)) (y := (⟨"java/util/ArrayList", "add", "(Ljava/lang/Object;)Z"⟩ : MethodName)) hown (mvT hZ (hwk hw 148 rfl)) (mvT hZ (hwk hw 149 rfl)) (mvT hZ (hwk hw 150 rfl)) (mvT hZ (hwk hw 151 rfl)) (mvT hZ (hwk hw 152 rfl)) (mvT hZ (hwk hw 153 rfl)) (mvT hZ (hwk hw 154 rfl)) (mvT hZ (hwk hw 155 rfl)) (by decide) (backOf (W := 0) (rm14_0E l Z a0 hw [] l1 b102 m1 wd kd vd T104.heap n0 O109 c105 c106 c107 c108 gl f104_0 SD VD) hZ (hwk hw 156 rfl) (hwk hw 11 rfl) (by decide) (by decide)) q110a q110b q110c (g := (mkF m 13 #[.val (.ref a1), .val (.int p1), .val v2] [(.ref b102), (.ref l1)])) rfl (by rw [hml]; rfl) (Steps.refl _) (argsL := [(.ref b102)]) (rest := []) (lenOf pd_7 rfl) rfl (by show 2 * 0 + _ ≤ _; exact Nat.le_of_eq rfl) (hb hby d21_13) (fun _ _ => ⟨rfl, (rfl : T104.heap = T104.heap), (by decide : 1 + 1 ≤ _), (by decide : 2 + 10 ≤ _)⟩)
  dsimp only [Pt.U, Pt.locs, Pt.cells, Pt.slots] at X110 l110 y110 z110 st110 hQ110
  subst l110 y110 z110
  unfold Q_rm14_0E at hQ110
  obtain ⟨t_110, k_110, rfl, N110q, K110, ge_t_110, f110_0, f110_1, f110_2, f110_3, f110_4, f110_5, f110_6⟩ := hQ110
  have N110 := Fr.app N104 N110q
  have g_t_110 : n0 ≤ t_110 := Nat.le_trans (old_le O109) ge_t_110
  have K111 : Keep h0 h102 [l1] := Keep.ext (Keep.refl h0 [l1]) E102
  have K112 : Keep h0 T104.heap [l1] := Keep.trans K111 K104 (allS (Or.inr (Nat.le_trans (Nat.le_refl _) (Nat.le_of_eq g102.symm))) all0)
  have K113 : Keep h0 T110.heap [l1] := Keep.trans K112 K110 (allS (Or.inl (List.mem_of_getElem? (i := 0) rfl)) all0)
  have c114 : Exa Z T110.heap b102 "com/example/fixlore/fixlore/lang/GraphBuilder$End" := (Exa.keep f104_0 K110)
  have c115 : Fld Z T110.heap b102 "com/example/fixlore/fixlore/lang/GraphBuilder$End" "from" "I" (.int p1) := (Fld.keep f104_1 K110 (ninS (ne_exa f104_0 c105 (by decide)) nin0))
  have c116 : Fld Z T110.heap b102 "com/example/fixlore/fixlore/lang/GraphBuilder$End" "branch" "Ljava/lang/String;" v2 := (Fld.keep f104_2 K110 (ninS (ne_exa f104_0 c105 (by decide)) nin0))
  obtain ⟨fs, hr, hrun, hended, hW, hsame⟩ := X110.leave (v := none) (fun _ => rfl)
  refine ⟨_, _, pre0 _ ?_, hrun, hended, _, _, rfl, ?_, ⟨_, rfl⟩, hW, hsame.mono (by decide) (by decide)⟩
  · show Steps p.tables e below (s₁.setTop (mkF m 0 #[.val (.ref a1), .val (.int p1), .val v2] [])) _
    refine XS.aloadN X0.here hx rfl (hb hby d21_0) rfl rfl ?_
    show Steps p.tables e below (s₁.setTop (mkF m 1 #[.val (.ref a1), .val (.int p1), .val v2] [(.ref a1)])) _
    refine st101 _ ?_
    show Steps p.tables e below (T101.setTop (mkF m 4 #[.val (.ref a1), .val (.int p1), .val v2] [(.ref l1)])) _
    refine st102 _ ?_
    show Steps p.tables e below (T102.setTop (mkF m 7 #[.val (.ref a1), .val (.int p1), .val v2] [(.ref b102), (.ref l1)])) _
    refine XS.dup X102.here hx rfl (hb hby d21_7) rfl rfl ?_
    show Steps p.tables e below (T102.setTop (mkF m 8 #[.val (.ref a1), .val (.int p1), .val v2] [(.ref b102), (.ref b102), (.ref l1)])) _
    refine XS.iloadN X102.here hx rfl (hb hby d21_8) rfl ?_
    refine XS.aloadN X102.here hx rfl (hb hby d21_9) rfl hv2 ?_
    show Steps p.tables e below (T102.setTop (mkF m 10 #[.val (.ref a1), .val (.int p1), .val v2] [v2, (.int p1), (.ref b102), (.ref b102), (.ref l1)])) _
    refine st104.trans ?_
    show Steps p.tables e below (T104.setTop (mkF m 13 #[.val (.ref a1), .val (.int p1), .val v2] [(.ref b102), (.ref l1)])) _
    refine st110.trans ?_
    show Steps p.tables e below (T110.setTop (mkF m 18 #[.val (.ref a1), .val (.int p1), .val v2] [(.int (1 : Int32))])) _
    refine XS.pop X110.here hx rfl (hb hby d21_18) rfl rfl ?_
    show Steps p.tables e below (T110.setTop (mkF m 19 #[.val (.ref a1), .val (.int p1), .val v2] [])) _
    exact X110.returnOut hx Bd.returns (hb hby d21_19) hr
  · show Q_rm21_0 Z a1 p1 v2 l1 m1 wd kd vd h0 n0 _ T110.heap _
    unfold Q_rm21_0
    exact ⟨b102, t_110, k_110, rfl, N110, K113, (Nat.le_trans (Nat.le_refl _) (Nat.le_of_eq g102.symm)), (Nat.le_trans (Nat.le_trans (Nat.le_trans (Nat.le_refl _) E102.1) K104.1) ge_t_110), f110_0, f110_1, f110_2, f110_3, f110_4, f110_5, c114, c115, c116, f110_6⟩
theorem ef_rm21_1 (m : MethodId) (x0 : Addr) (x1 : Int32) (x2 : Value) (hr2 : x2.isRef = true) : entryFrame m #[(.ref x0), (.int x1), x2] 3 = mkF m 0 #[.val (.ref x0), .val (.int x1), .val x2] [] := by rcases ref_cases hr2 with rfl | ⟨y2, rfl⟩ <;> first | (simp [entryFrame, mkF, argsToLocals, Value.category]; done) | rfl
def Q_rm21_1 (Z : State) (a1 : Addr) (p1 : Int32) (v2 : Value) (l1 : Addr) (x0 : Addr) (m1 : Int32) (wd : Addr) (kd : ClassId) (vd : List Value) (t1 : Addr) (k1 : ClassId) (h0 : Heap) (n0 : Nat) (v : Option Value) (h : Heap) (L : List Loc) : Prop := ∃ e : Addr, (v = none) ∧ (Fr n0 L) ∧ (Keep h0 h [l1, t1]) ∧ (h0.size ≤ e) ∧ (Exa Z h l1 "java/util/ArrayList") ∧ (Fld Z h l1 "java/util/ArrayList" "elementData" "[Ljava/lang/Object;" (.ref t1)) ∧ (Fld Z h l1 "java/util/ArrayList" "size" "I" (.int (2 : Int32))) ∧ (Fld Z h l1 "java/util/AbstractList" "modCount" "I" (.int (m1 + (1 : Int32)))) ∧ (Arv Z h t1 k1 (.object "java/lang/Object") (10 : Int32) [(.ref x0), (.ref e), .null, .null, .null, .null, .null, .null, .null, .null] .null) ∧ (Ovr Z k1 "java/lang/Object") ∧ (Exa Z h e "com/example/fixlore/fixlore/lang/GraphBuilder$End") ∧ (Fld Z h e "com/example/fixlore/fixlore/lang/GraphBuilder$End" "from" "I" (.int p1)) ∧ (Fld Z h e "com/example/fixlore/fixlore/lang/GraphBuilder$End" "branch" "Ljava/lang/String;" v2)
set_option maxRecDepth 65536 in
set_option maxHeartbeats 40000000 in
theorem rm21_1 (l : Launch) (Z : State) (a0 : Array Value) (hw : ∀ d ∈ tables_1, d.before a0 Z = true) (ws : List Jvm.Cond) (a1 : Addr) (p1 : Int32) (v2 : Value) (l1 : Addr) (x0 : Addr) (m1 : Int32) (wd : Addr) (kd : ClassId) (vd : List Value) (t1 : Addr) (k1 : ClassId) (h0 : Heap) (n0 : Nat) (O0 : Old Z n0 h0) (GP : Fld Z h0 a1 "com/example/fixlore/fixlore/lang/GraphBuilder" "pending" "Ljava/util/List;" (.ref l1)) (LE : Exa Z h0 l1 "java/util/ArrayList") (LD : Fld Z h0 l1 "java/util/ArrayList" "elementData" "[Ljava/lang/Object;" (.ref t1)) (LS : Fld Z h0 l1 "java/util/ArrayList" "size" "I" (.int (1 : Int32))) (LM : Fld Z h0 l1 "java/util/AbstractList" "modCount" "I" (.int m1)) (LV : Arv Z h0 t1 k1 (.object "java/lang/Object") (10 : Int32) [(.ref x0), .null, .null, .null, .null, .null, .null, .null, .null, .null] .null) (LO : Ovr Z k1 "java/lang/Object") (gl : n0 ≤ l1) (na : a1 ≠ l1) (SD : Sta Z Z.heap "java/util/ArrayList" "DEFAULTCAPACITY_EMPTY_ELEMENTDATA" "[Ljava/lang/Object;" (.ref wd)) (VD : Arv Z Z.heap wd kd (.object "java/lang/Object") (0 : Int32) vd .null) (hv2 : v2.isRef = true) (gt : n0 ≤ t1) (nt : t1 ≠ l1) (nta : a1 ≠ t1) :
    MetFree l (⟨"com/example/fixlore/fixlore/lang/GraphBuilder", "join", "(ILjava/lang/String;)V"⟩ : MethodName) (head1 (Jvm.Cond.code (⟨"com/example/fixlore/fixlore/lang/GraphBuilder", "join", "(ILjava/lang/String;)V"⟩ : MethodName) prog_26_method_17_code 3 none :: ws) ({ frames := 3, cells := 1, slots := 2, locals := 40 } : Room)) (fun a U => a = #[(.ref a1), (.int p1), v2] ∧ Z.Warmed39 U.vm ∧ U.heap = h0) (fun _ _ _ _ _ => True) (fun _ U o U' => ∃ v L, o = .returned v ∧ Q_rm21_1 Z a1 p1 v2 l1 x0 m1 wd kd vd t1 k1 h0 n0 v U'.heap L ∧ FrameEnd U o U' L ({ frames := 3, cells := 1, slots := 2, locals := 40 } : Room).cells ({ frames := 3, cells := 1, slots := 2, locals := 40 } : Room).slots) := by
  refine MetFree.of_bodySF (plainFor_of_name pn_9) hisR ?_
  intro p e s m args below meth c s₁ Bd hml0 hP hK
  obtain ⟨rfl, hZ, hh⟩ := hP
  have hx := Bd.exec
  have hby := Bd.bytes
  have hml : c.maxLocals = 3 := hml0
  have hown : s.vm.findClass "com/example/fixlore/fixlore/lang/GraphBuilder" = some m.cls := findClass_of_methodNamed Bd.named
  have hnm := (name_of_methodNamed Bd.named Bd.method).1
  have X0 : Stand p l e ({ frames := 3, cells := 1, slots := 2, locals := 40 } : Room) s m #[(.ref a1), (.int p1), v2] below meth c s₁ [] 0 0 := Stand.of_body Bd
  have e0 : s₁.heap = h0 := by rw [← hh, Bd.state]; rfl
  have N0 := Fr.nil n0
  have Z0 : n0 ≤ h0.size := old_le O0
  have pre0 : ∀ t, Steps p.tables e below (s₁.setTop (mkF m 0 #[.val (.ref a1), .val (.int p1), .val v2] [])) t → Steps p.tables e below (s₁.setTop (entryFrame m #[(.ref a1), (.int p1), v2] 3)) t := fun t k => castTop (ef_rm21_1 m a1 p1 v2 hv2) k
  obtain ⟨T101, X101, e101, st101⟩ := getF X0 hx hZ hown (host := "") (Or.inl (hwk hw 96 rfl)) Via.refl e0 GP (g := (mkF m 1 #[.val (.ref a1), .val (.int p1), .val v2] [(.ref a1)])) rfl rfl (hb hby d21_1)
  obtain ⟨T102, h102, X102, e102, E102, A102, D102, -, st102⟩ := newO X101 hx hZ hown (hwk hw 205 rfl) (hwk hw 206 rfl) (hwk hw 207 rfl) e101 (g := (mkF m 4 #[.val (.ref a1), .val (.int p1), .val v2] [(.ref l1)])) rfl (hb hby d21_4) (by decide) (by decide)
  obtain ⟨b102, g102⟩ : ∃ z, z = h0.size := ⟨_, rfl⟩
  rw [← g102] at A102 D102 st102
  have g_b102 : n0 ≤ b102 := Nat.le_trans (old_le O0) (Nat.le_of_eq g102.symm)
  have O103 : Old Z n0 h102 := Old.ext O0 E102
  obtain ⟨_, _, ⟨T104, L104, k104, n104⟩, -, X104, ⟨Lc104, hQ104, l104, y104, z104⟩, st104⟩ := X102.specialBack hx (y := (⟨"com/example/fixlore/fixlore/lang/GraphBuilder$End", "<init>", "(ILjava/lang/String;)V"⟩ : MethodName)) rfl hown (mvT hZ (hwk hw 208 rfl)) (mvT hZ (hwk hw 209 rfl)) (mvT hZ (hwk hw 210 rfl)) (by decide) (backOf (W := 2) (rm22 l Z a0 hw [] b102 p1 v2 h102 n0 O103 A102 g_b102 (show Fld Z h102 b102 "com/example/fixlore/fixlore/lang/GraphBuilder$End" "from" "I" (.int (0 : Int32)) from D102 (Or.inr (hwk hw 218 rfl)) (ty := .int) (by decide)) (show Fld Z h102 b102 "com/example/fixlore/fixlore/lang/GraphBuilder$End" "branch" "Ljava/lang/String;" .null from D102 (Or.inr (hwk hw 220 rfl)) (ty := (.object "java/lang/String")) (by decide)) hv2) hZ (hwk hw 210 rfl) (hwk hw 207 rfl) (by decide) (by decide)) (g := (mkF m 10 #[.val (.ref a1), .val (.int p1), .val v2] [v2, (.int p1), (.ref b102), (.ref b102), (.ref l1)])) rfl (by rw [hml]; rfl) (Steps.refl _) (a := b102) (argsL := [(.int p1), v2]) (rest := [(.ref b102), (.ref l1)]) (lenOf pd_9 rfl) rfl (by show 2 * 0 + _ ≤ _; exact Nat.le_of_eq rfl) (hb hby d21_10) (fun _ _ => ⟨rfl, e102, (by decide : 1 + 0 ≤ _), (by decide : 2 + 0 ≤ _)⟩)
  dsimp only [Pt.U, Pt.locs, Pt.cells, Pt.slots] at X104 l104 y104 z104 st104 hQ104
  subst l104 y104 z104
  unfold Q_rm22 at hQ104
  obtain ⟨rfl, N104q, K104, f104_0, f104_1, f104_2⟩ := hQ104
  have N104 := Fr.app N0 N104q
  have c105 : Exa Z T104.heap l1 "java/util/ArrayList" := (Exa.keep (Exa.ext E102 LE) K104)
  have c106 : Fld Z T104.heap l1 "java/util/ArrayList" "elementData" "[Ljava/lang/Object;" (.ref t1) := (Fld.keep (Fld.ext E102 LD) K104 (ninS (ne_exa c105 f104_0 (by decide)) nin0))
  have c107 : Fld Z T104.heap l1 "java/util/ArrayList" "size" "I" (.int (1 : Int32)) := (Fld.keep (Fld.ext E102 LS) K104 (ninS (ne_exa c105 f104_0 (by decide)) nin0))
  have c108 : Fld Z T104.heap l1 "java/util/AbstractList" "modCount" "I" (.int m1) := (Fld.keep (Fld.ext E102 LM) K104 (ninS (ne_exa c105 f104_0 (by decide)) nin0))
  have c109 : Arv Z T104.heap t1 k1 (.object "java/lang/Object") (10 : Int32) [(.ref x0), .null, .null, .null, .null, .null, .null, .null, .null, .null] .null := (Arv.keep (LV.ext E102) K104 (ninS (Nat.ne_of_lt (Nat.lt_of_lt_of_le (LV).lt (Nat.le_of_eq g102.symm))) nin0))
  have O110 : Old Z n0 T104.heap := Old.keep O103 K104 (allS g_b102 all0)
  obtain ⟨cq111, kq111, q111a, q111b, q111c⟩ := isOf hZ (rfl : T104.heap = T104.heap) c105
  obtain ⟨_, _, ⟨T111, L111, k111, n111⟩, -, X111, ⟨Lc111, hQ111, l111, y111, z111⟩, st111⟩ := X104.interfaceBack hx (xi := (⟨"java/util/List", "add", "(Ljava/lang/Object;)Z"⟩ : MethodName)) (y := (⟨"java/util/ArrayList", "add", "(Ljava/lang/Object;)Z"⟩ : MethodName)) hown (mvT hZ (hwk hw 148 rfl)) (mvT hZ (hwk hw 149 rfl)) (mvT hZ (hwk hw 150 rfl)) (mvT hZ (hwk hw 151 rfl)) (mvT hZ (hwk hw 152 rfl)) (mvT hZ (hwk hw 153 rfl)) (mvT hZ (hwk hw 154 rfl)) (mvT hZ (hwk hw 155 rfl)) (by decide) (backOf (W := 0) (rm14_1E l Z a0 hw [] l1 b102 x0 m1 t1 k1 T104.heap n0 O110 c105 c106 c107 c108 c109 LO gl f104_0 gt nt) hZ (hwk hw 156 rfl) (hwk hw 11 rfl) (by decide) (by decide)) q111a q111b q111c (g := (mkF m 13 #[.val (.ref a1), .val (.int p1), .val v2] [(.ref b102), (.ref l1)])) rfl (by rw [hml]; rfl) (Steps.refl _) (argsL := [(.ref b102)]) (rest := []) (lenOf pd_7 rfl) rfl (by show 2 * 0 + _ ≤ _; exact Nat.le_of_eq rfl) (hb hby d21_13) (fun _ _ => ⟨rfl, (rfl : T104.heap = T104.heap), (by decide : 1 + 0 ≤ _), (by decide : 2 + 0 ≤ _)⟩)
  dsimp only [Pt.U, Pt.locs, Pt.cells, Pt.slots] at X111 l111 y111 z111 st111 hQ111
  subst l111 y111 z111
  unfold Q_rm14_1E at hQ111
  obtain ⟨rfl, N111q, K111, f111_0, f111_1, f111_2, f111_3, f111_4, f111_5⟩ := hQ111
  have N111 := Fr.app N104 N111q
  have K112 : Keep h0 h102 [l1, t1] := Keep.ext (Keep.refl h0 [l1, t1]) E102
  have K113 : Keep h0 T104.heap [l1, t1] := Keep.trans K112 K104 (allS (Or.inr (Nat.le_trans (Nat.le_refl _) (Nat.le_of_eq g102.symm))) all0)
  have K114 : Keep h0 T111.heap [l1, t1] := Keep.trans K113 K111 (allS (Or.inl (List.mem_of_getElem? (i := 0) rfl)) (allS (Or.inl (List.mem_of_getElem? (i := 1) rfl)) all0))
  have c115 : Exa Z T111.heap b102 "com/example/fixlore/fixlore/lang/GraphBuilder$End" := (Exa.keep f104_0 K111)
  have c116 : Fld Z T111.heap b102 "com/example/fixlore/fixlore/lang/GraphBuilder$End" "from" "I" (.int p1) := (Fld.keep f104_1 K111 (ninS (ne_exa f104_0 c105 (by decide)) (ninS (Exa.neArv c115 f111_4 (hwk hw 206 rfl)) nin0)))
  have c117 : Fld Z T111.heap b102 "com/example/fixlore/fixlore/lang/GraphBuilder$End" "branch" "Ljava/lang/String;" v2 := (Fld.keep f104_2 K111 (ninS (ne_exa f104_0 c105 (by decide)) (ninS (Exa.neArv c115 f111_4 (hwk hw 206 rfl)) nin0)))
  obtain ⟨fs, hr, hrun, hended, hW, hsame⟩ := X111.leave (v := none) (fun _ => rfl)
  refine ⟨_, _, pre0 _ ?_, hrun, hended, _, _, rfl, ?_, ⟨_, rfl⟩, hW, hsame.mono (by decide) (by decide)⟩
  · show Steps p.tables e below (s₁.setTop (mkF m 0 #[.val (.ref a1), .val (.int p1), .val v2] [])) _
    refine XS.aloadN X0.here hx rfl (hb hby d21_0) rfl rfl ?_
    show Steps p.tables e below (s₁.setTop (mkF m 1 #[.val (.ref a1), .val (.int p1), .val v2] [(.ref a1)])) _
    refine st101 _ ?_
    show Steps p.tables e below (T101.setTop (mkF m 4 #[.val (.ref a1), .val (.int p1), .val v2] [(.ref l1)])) _
    refine st102 _ ?_
    show Steps p.tables e below (T102.setTop (mkF m 7 #[.val (.ref a1), .val (.int p1), .val v2] [(.ref b102), (.ref l1)])) _
    refine XS.dup X102.here hx rfl (hb hby d21_7) rfl rfl ?_
    show Steps p.tables e below (T102.setTop (mkF m 8 #[.val (.ref a1), .val (.int p1), .val v2] [(.ref b102), (.ref b102), (.ref l1)])) _
    refine XS.iloadN X102.here hx rfl (hb hby d21_8) rfl ?_
    refine XS.aloadN X102.here hx rfl (hb hby d21_9) rfl hv2 ?_
    show Steps p.tables e below (T102.setTop (mkF m 10 #[.val (.ref a1), .val (.int p1), .val v2] [v2, (.int p1), (.ref b102), (.ref b102), (.ref l1)])) _
    refine st104.trans ?_
    show Steps p.tables e below (T104.setTop (mkF m 13 #[.val (.ref a1), .val (.int p1), .val v2] [(.ref b102), (.ref l1)])) _
    refine st111.trans ?_
    show Steps p.tables e below (T111.setTop (mkF m 18 #[.val (.ref a1), .val (.int p1), .val v2] [(.int (1 : Int32))])) _
    refine XS.pop X111.here hx rfl (hb hby d21_18) rfl rfl ?_
    show Steps p.tables e below (T111.setTop (mkF m 19 #[.val (.ref a1), .val (.int p1), .val v2] [])) _
    exact X111.returnOut hx Bd.returns (hb hby d21_19) hr
  · show Q_rm21_1 Z a1 p1 v2 l1 x0 m1 wd kd vd t1 k1 h0 n0 _ T111.heap _
    unfold Q_rm21_1
    exact ⟨b102, rfl, N111, K114, (Nat.le_trans (Nat.le_refl _) (Nat.le_of_eq g102.symm)), f111_0, f111_1, f111_2, f111_3, f111_4, LO, c115, c116, c117⟩
theorem ef_rm21_2 (m : MethodId) (x0 : Addr) (x1 : Int32) (x2 : Value) (hr2 : x2.isRef = true) : entryFrame m #[(.ref x0), (.int x1), x2] 3 = mkF m 0 #[.val (.ref x0), .val (.int x1), .val x2] [] := by rcases ref_cases hr2 with rfl | ⟨y2, rfl⟩ <;> first | (simp [entryFrame, mkF, argsToLocals, Value.category]; done) | rfl
def Q_rm21_2 (Z : State) (a1 : Addr) (p1 : Int32) (v2 : Value) (l1 : Addr) (x0 : Addr) (x1 : Addr) (m1 : Int32) (wd : Addr) (kd : ClassId) (vd : List Value) (t1 : Addr) (k1 : ClassId) (h0 : Heap) (n0 : Nat) (v : Option Value) (h : Heap) (L : List Loc) : Prop := ∃ e : Addr, (v = none) ∧ (Fr n0 L) ∧ (Keep h0 h [l1, t1]) ∧ (h0.size ≤ e) ∧ (Exa Z h l1 "java/util/ArrayList") ∧ (Fld Z h l1 "java/util/ArrayList" "elementData" "[Ljava/lang/Object;" (.ref t1)) ∧ (Fld Z h l1 "java/util/ArrayList" "size" "I" (.int (3 : Int32))) ∧ (Fld Z h l1 "java/util/AbstractList" "modCount" "I" (.int (m1 + (1 : Int32)))) ∧ (Arv Z h t1 k1 (.object "java/lang/Object") (10 : Int32) [(.ref x0), (.ref x1), (.ref e), .null, .null, .null, .null, .null, .null, .null] .null) ∧ (Ovr Z k1 "java/lang/Object") ∧ (Exa Z h e "com/example/fixlore/fixlore/lang/GraphBuilder$End") ∧ (Fld Z h e "com/example/fixlore/fixlore/lang/GraphBuilder$End" "from" "I" (.int p1)) ∧ (Fld Z h e "com/example/fixlore/fixlore/lang/GraphBuilder$End" "branch" "Ljava/lang/String;" v2)
set_option maxRecDepth 65536 in
set_option maxHeartbeats 40000000 in
theorem rm21_2 (l : Launch) (Z : State) (a0 : Array Value) (hw : ∀ d ∈ tables_1, d.before a0 Z = true) (ws : List Jvm.Cond) (a1 : Addr) (p1 : Int32) (v2 : Value) (l1 : Addr) (x0 : Addr) (x1 : Addr) (m1 : Int32) (wd : Addr) (kd : ClassId) (vd : List Value) (t1 : Addr) (k1 : ClassId) (h0 : Heap) (n0 : Nat) (O0 : Old Z n0 h0) (GP : Fld Z h0 a1 "com/example/fixlore/fixlore/lang/GraphBuilder" "pending" "Ljava/util/List;" (.ref l1)) (LE : Exa Z h0 l1 "java/util/ArrayList") (LD : Fld Z h0 l1 "java/util/ArrayList" "elementData" "[Ljava/lang/Object;" (.ref t1)) (LS : Fld Z h0 l1 "java/util/ArrayList" "size" "I" (.int (2 : Int32))) (LM : Fld Z h0 l1 "java/util/AbstractList" "modCount" "I" (.int m1)) (LV : Arv Z h0 t1 k1 (.object "java/lang/Object") (10 : Int32) [(.ref x0), (.ref x1), .null, .null, .null, .null, .null, .null, .null, .null] .null) (LO : Ovr Z k1 "java/lang/Object") (gl : n0 ≤ l1) (na : a1 ≠ l1) (SD : Sta Z Z.heap "java/util/ArrayList" "DEFAULTCAPACITY_EMPTY_ELEMENTDATA" "[Ljava/lang/Object;" (.ref wd)) (VD : Arv Z Z.heap wd kd (.object "java/lang/Object") (0 : Int32) vd .null) (hv2 : v2.isRef = true) (gt : n0 ≤ t1) (nt : t1 ≠ l1) (nta : a1 ≠ t1) :
    MetFree l (⟨"com/example/fixlore/fixlore/lang/GraphBuilder", "join", "(ILjava/lang/String;)V"⟩ : MethodName) (head1 (Jvm.Cond.code (⟨"com/example/fixlore/fixlore/lang/GraphBuilder", "join", "(ILjava/lang/String;)V"⟩ : MethodName) prog_26_method_17_code 3 none :: ws) ({ frames := 3, cells := 1, slots := 2, locals := 40 } : Room)) (fun a U => a = #[(.ref a1), (.int p1), v2] ∧ Z.Warmed39 U.vm ∧ U.heap = h0) (fun _ _ _ _ _ => True) (fun _ U o U' => ∃ v L, o = .returned v ∧ Q_rm21_2 Z a1 p1 v2 l1 x0 x1 m1 wd kd vd t1 k1 h0 n0 v U'.heap L ∧ FrameEnd U o U' L ({ frames := 3, cells := 1, slots := 2, locals := 40 } : Room).cells ({ frames := 3, cells := 1, slots := 2, locals := 40 } : Room).slots) := by
  refine MetFree.of_bodySF (plainFor_of_name pn_9) hisR ?_
  intro p e s m args below meth c s₁ Bd hml0 hP hK
  obtain ⟨rfl, hZ, hh⟩ := hP
  have hx := Bd.exec
  have hby := Bd.bytes
  have hml : c.maxLocals = 3 := hml0
  have hown : s.vm.findClass "com/example/fixlore/fixlore/lang/GraphBuilder" = some m.cls := findClass_of_methodNamed Bd.named
  have hnm := (name_of_methodNamed Bd.named Bd.method).1
  have X0 : Stand p l e ({ frames := 3, cells := 1, slots := 2, locals := 40 } : Room) s m #[(.ref a1), (.int p1), v2] below meth c s₁ [] 0 0 := Stand.of_body Bd
  have e0 : s₁.heap = h0 := by rw [← hh, Bd.state]; rfl
  have N0 := Fr.nil n0
  have Z0 : n0 ≤ h0.size := old_le O0
  have pre0 : ∀ t, Steps p.tables e below (s₁.setTop (mkF m 0 #[.val (.ref a1), .val (.int p1), .val v2] [])) t → Steps p.tables e below (s₁.setTop (entryFrame m #[(.ref a1), (.int p1), v2] 3)) t := fun t k => castTop (ef_rm21_2 m a1 p1 v2 hv2) k
  obtain ⟨T101, X101, e101, st101⟩ := getF X0 hx hZ hown (host := "") (Or.inl (hwk hw 96 rfl)) Via.refl e0 GP (g := (mkF m 1 #[.val (.ref a1), .val (.int p1), .val v2] [(.ref a1)])) rfl rfl (hb hby d21_1)
  obtain ⟨T102, h102, X102, e102, E102, A102, D102, -, st102⟩ := newO X101 hx hZ hown (hwk hw 205 rfl) (hwk hw 206 rfl) (hwk hw 207 rfl) e101 (g := (mkF m 4 #[.val (.ref a1), .val (.int p1), .val v2] [(.ref l1)])) rfl (hb hby d21_4) (by decide) (by decide)
  obtain ⟨b102, g102⟩ : ∃ z, z = h0.size := ⟨_, rfl⟩
  rw [← g102] at A102 D102 st102
  have g_b102 : n0 ≤ b102 := Nat.le_trans (old_le O0) (Nat.le_of_eq g102.symm)
  have O103 : Old Z n0 h102 := Old.ext O0 E102
  obtain ⟨_, _, ⟨T104, L104, k104, n104⟩, -, X104, ⟨Lc104, hQ104, l104, y104, z104⟩, st104⟩ := X102.specialBack hx (y := (⟨"com/example/fixlore/fixlore/lang/GraphBuilder$End", "<init>", "(ILjava/lang/String;)V"⟩ : MethodName)) rfl hown (mvT hZ (hwk hw 208 rfl)) (mvT hZ (hwk hw 209 rfl)) (mvT hZ (hwk hw 210 rfl)) (by decide) (backOf (W := 2) (rm22 l Z a0 hw [] b102 p1 v2 h102 n0 O103 A102 g_b102 (show Fld Z h102 b102 "com/example/fixlore/fixlore/lang/GraphBuilder$End" "from" "I" (.int (0 : Int32)) from D102 (Or.inr (hwk hw 218 rfl)) (ty := .int) (by decide)) (show Fld Z h102 b102 "com/example/fixlore/fixlore/lang/GraphBuilder$End" "branch" "Ljava/lang/String;" .null from D102 (Or.inr (hwk hw 220 rfl)) (ty := (.object "java/lang/String")) (by decide)) hv2) hZ (hwk hw 210 rfl) (hwk hw 207 rfl) (by decide) (by decide)) (g := (mkF m 10 #[.val (.ref a1), .val (.int p1), .val v2] [v2, (.int p1), (.ref b102), (.ref b102), (.ref l1)])) rfl (by rw [hml]; rfl) (Steps.refl _) (a := b102) (argsL := [(.int p1), v2]) (rest := [(.ref b102), (.ref l1)]) (lenOf pd_9 rfl) rfl (by show 2 * 0 + _ ≤ _; exact Nat.le_of_eq rfl) (hb hby d21_10) (fun _ _ => ⟨rfl, e102, (by decide : 1 + 0 ≤ _), (by decide : 2 + 0 ≤ _)⟩)
  dsimp only [Pt.U, Pt.locs, Pt.cells, Pt.slots] at X104 l104 y104 z104 st104 hQ104
  subst l104 y104 z104
  unfold Q_rm22 at hQ104
  obtain ⟨rfl, N104q, K104, f104_0, f104_1, f104_2⟩ := hQ104
  have N104 := Fr.app N0 N104q
  have c105 : Exa Z T104.heap l1 "java/util/ArrayList" := (Exa.keep (Exa.ext E102 LE) K104)
  have c106 : Fld Z T104.heap l1 "java/util/ArrayList" "elementData" "[Ljava/lang/Object;" (.ref t1) := (Fld.keep (Fld.ext E102 LD) K104 (ninS (ne_exa c105 f104_0 (by decide)) nin0))
  have c107 : Fld Z T104.heap l1 "java/util/ArrayList" "size" "I" (.int (2 : Int32)) := (Fld.keep (Fld.ext E102 LS) K104 (ninS (ne_exa c105 f104_0 (by decide)) nin0))
  have c108 : Fld Z T104.heap l1 "java/util/AbstractList" "modCount" "I" (.int m1) := (Fld.keep (Fld.ext E102 LM) K104 (ninS (ne_exa c105 f104_0 (by decide)) nin0))
  have c109 : Arv Z T104.heap t1 k1 (.object "java/lang/Object") (10 : Int32) [(.ref x0), (.ref x1), .null, .null, .null, .null, .null, .null, .null, .null] .null := (Arv.keep (LV.ext E102) K104 (ninS (Nat.ne_of_lt (Nat.lt_of_lt_of_le (LV).lt (Nat.le_of_eq g102.symm))) nin0))
  have O110 : Old Z n0 T104.heap := Old.keep O103 K104 (allS g_b102 all0)
  obtain ⟨cq111, kq111, q111a, q111b, q111c⟩ := isOf hZ (rfl : T104.heap = T104.heap) c105
  obtain ⟨_, _, ⟨T111, L111, k111, n111⟩, -, X111, ⟨Lc111, hQ111, l111, y111, z111⟩, st111⟩ := X104.interfaceBack hx (xi := (⟨"java/util/List", "add", "(Ljava/lang/Object;)Z"⟩ : MethodName)) (y := (⟨"java/util/ArrayList", "add", "(Ljava/lang/Object;)Z"⟩ : MethodName)) hown (mvT hZ (hwk hw 148 rfl)) (mvT hZ (hwk hw 149 rfl)) (mvT hZ (hwk hw 150 rfl)) (mvT hZ (hwk hw 151 rfl)) (mvT hZ (hwk hw 152 rfl)) (mvT hZ (hwk hw 153 rfl)) (mvT hZ (hwk hw 154 rfl)) (mvT hZ (hwk hw 155 rfl)) (by decide) (backOf (W := 0) (rm14_2E l Z a0 hw [] l1 b102 x0 x1 m1 t1 k1 T104.heap n0 O110 c105 c106 c107 c108 c109 LO gl f104_0 gt nt) hZ (hwk hw 156 rfl) (hwk hw 11 rfl) (by decide) (by decide)) q111a q111b q111c (g := (mkF m 13 #[.val (.ref a1), .val (.int p1), .val v2] [(.ref b102), (.ref l1)])) rfl (by rw [hml]; rfl) (Steps.refl _) (argsL := [(.ref b102)]) (rest := []) (lenOf pd_7 rfl) rfl (by show 2 * 0 + _ ≤ _; exact Nat.le_of_eq rfl) (hb hby d21_13) (fun _ _ => ⟨rfl, (rfl : T104.heap = T104.heap), (by decide : 1 + 0 ≤ _), (by decide : 2 + 0 ≤ _)⟩)
  dsimp only [Pt.U, Pt.locs, Pt.cells, Pt.slots] at X111 l111 y111 z111 st111 hQ111
  subst l111 y111 z111
  unfold Q_rm14_2E at hQ111
  obtain ⟨rfl, N111q, K111, f111_0, f111_1, f111_2, f111_3, f111_4, f111_5⟩ := hQ111
  have N111 := Fr.app N104 N111q
  have K112 : Keep h0 h102 [l1, t1] := Keep.ext (Keep.refl h0 [l1, t1]) E102
  have K113 : Keep h0 T104.heap [l1, t1] := Keep.trans K112 K104 (allS (Or.inr (Nat.le_trans (Nat.le_refl _) (Nat.le_of_eq g102.symm))) all0)
  have K114 : Keep h0 T111.heap [l1, t1] := Keep.trans K113 K111 (allS (Or.inl (List.mem_of_getElem? (i := 0) rfl)) (allS (Or.inl (List.mem_of_getElem? (i := 1) rfl)) all0))
  have c115 : Exa Z T111.heap b102 "com/example/fixlore/fixlore/lang/GraphBuilder$End" := (Exa.keep f104_0 K111)
  have c116 : Fld Z T111.heap b102 "com/example/fixlore/fixlore/lang/GraphBuilder$End" "from" "I" (.int p1) := (Fld.keep f104_1 K111 (ninS (ne_exa f104_0 c105 (by decide)) (ninS (Exa.neArv c115 f111_4 (hwk hw 206 rfl)) nin0)))
  have c117 : Fld Z T111.heap b102 "com/example/fixlore/fixlore/lang/GraphBuilder$End" "branch" "Ljava/lang/String;" v2 := (Fld.keep f104_2 K111 (ninS (ne_exa f104_0 c105 (by decide)) (ninS (Exa.neArv c115 f111_4 (hwk hw 206 rfl)) nin0)))
  obtain ⟨fs, hr, hrun, hended, hW, hsame⟩ := X111.leave (v := none) (fun _ => rfl)
  refine ⟨_, _, pre0 _ ?_, hrun, hended, _, _, rfl, ?_, ⟨_, rfl⟩, hW, hsame.mono (by decide) (by decide)⟩
  · show Steps p.tables e below (s₁.setTop (mkF m 0 #[.val (.ref a1), .val (.int p1), .val v2] [])) _
    refine XS.aloadN X0.here hx rfl (hb hby d21_0) rfl rfl ?_
    show Steps p.tables e below (s₁.setTop (mkF m 1 #[.val (.ref a1), .val (.int p1), .val v2] [(.ref a1)])) _
    refine st101 _ ?_
    show Steps p.tables e below (T101.setTop (mkF m 4 #[.val (.ref a1), .val (.int p1), .val v2] [(.ref l1)])) _
    refine st102 _ ?_
    show Steps p.tables e below (T102.setTop (mkF m 7 #[.val (.ref a1), .val (.int p1), .val v2] [(.ref b102), (.ref l1)])) _
    refine XS.dup X102.here hx rfl (hb hby d21_7) rfl rfl ?_
    show Steps p.tables e below (T102.setTop (mkF m 8 #[.val (.ref a1), .val (.int p1), .val v2] [(.ref b102), (.ref b102), (.ref l1)])) _
    refine XS.iloadN X102.here hx rfl (hb hby d21_8) rfl ?_
    refine XS.aloadN X102.here hx rfl (hb hby d21_9) rfl hv2 ?_
    show Steps p.tables e below (T102.setTop (mkF m 10 #[.val (.ref a1), .val (.int p1), .val v2] [v2, (.int p1), (.ref b102), (.ref b102), (.ref l1)])) _
    refine st104.trans ?_
    show Steps p.tables e below (T104.setTop (mkF m 13 #[.val (.ref a1), .val (.int p1), .val v2] [(.ref b102), (.ref l1)])) _
    refine st111.trans ?_
    show Steps p.tables e below (T111.setTop (mkF m 18 #[.val (.ref a1), .val (.int p1), .val v2] [(.int (1 : Int32))])) _
    refine XS.pop X111.here hx rfl (hb hby d21_18) rfl rfl ?_
    show Steps p.tables e below (T111.setTop (mkF m 19 #[.val (.ref a1), .val (.int p1), .val v2] [])) _
    exact X111.returnOut hx Bd.returns (hb hby d21_19) hr
  · show Q_rm21_2 Z a1 p1 v2 l1 x0 x1 m1 wd kd vd t1 k1 h0 n0 _ T111.heap _
    unfold Q_rm21_2
    exact ⟨b102, rfl, N111, K114, (Nat.le_trans (Nat.le_refl _) (Nat.le_of_eq g102.symm)), f111_0, f111_1, f111_2, f111_3, f111_4, LO, c115, c116, c117⟩
theorem ef_rm20 (m : MethodId) (x0 : Addr) (x1 : Int32) : entryFrame m #[(.ref x0), (.int x1), .null] 3 = mkF m 0 #[.val (.ref x0), .val (.int x1), .val .null] [] := by first | (simp [entryFrame, mkF, argsToLocals, Value.category]; done) | rfl
def Q_rm20 (Z : State) (a1 : Addr) (p1 : Int32) (u0 : Value) (wd : Addr) (kd : ClassId) (vd : List Value) (h0 : Heap) (n0 : Nat) (v : Option Value) (h : Heap) (L : List Loc) : Prop := ∃ l : Addr, ∃ e : Addr, ∃ t : Addr, ∃ k : ClassId, (v = none) ∧ (Fr n0 L) ∧ (Keep h0 h [a1]) ∧ (h0.size ≤ l) ∧ (h0.size ≤ e) ∧ (h0.size ≤ t) ∧ (Exa Z h a1 "com/example/fixlore/fixlore/lang/GraphBuilder") ∧ (Fld Z h a1 "com/example/fixlore/fixlore/lang/GraphBuilder" "pending" "Ljava/util/List;" (.ref l)) ∧ (Exa Z h l "java/util/ArrayList") ∧ (Fld Z h l "java/util/ArrayList" "elementData" "[Ljava/lang/Object;" (.ref t)) ∧ (Fld Z h l "java/util/ArrayList" "size" "I" (.int (1 : Int32))) ∧ (Fld Z h l "java/util/AbstractList" "modCount" "I" (.int ((0 : Int32) + (1 : Int32)))) ∧ (Arv Z h t k (.object "java/lang/Object") (10 : Int32) [(.ref e), .null, .null, .null, .null, .null, .null, .null, .null, .null] .null) ∧ (Ovr Z k "java/lang/Object") ∧ (Exa Z h e "com/example/fixlore/fixlore/lang/GraphBuilder$End") ∧ (Fld Z h e "com/example/fixlore/fixlore/lang/GraphBuilder$End" "from" "I" (.int p1)) ∧ (Fld Z h e "com/example/fixlore/fixlore/lang/GraphBuilder$End" "branch" "Ljava/lang/String;" .null) ∧ (t ≠ l)
theorem d20_0 : decode prog_26_method_14_code 0 = .ok (.aload_n 0, 1) := by decide +kernel
theorem d20_1 : decode prog_26_method_14_code 1 = .ok (.new 7, 3) := by decide +kernel
theorem d20_4 : decode prog_26_method_14_code 4 = .ok (.dup, 1) := by decide +kernel
theorem d20_5 : decode prog_26_method_14_code 5 = .ok (.invokespecial 9, 3) := by decide +kernel
theorem d20_8 : decode prog_26_method_14_code 8 = .ok (.putfield 49, 3) := by decide +kernel
theorem d20_11 : decode prog_26_method_14_code 11 = .ok (.aload_n 0, 1) := by decide +kernel
theorem d20_12 : decode prog_26_method_14_code 12 = .ok (.iload_n 1, 1) := by decide +kernel
theorem d20_13 : decode prog_26_method_14_code 13 = .ok (.aload_n 2, 1) := by decide +kernel
theorem d20_14 : decode prog_26_method_14_code 14 = .ok (.invokevirtual 175, 3) := by decide +kernel
theorem d20_17 : decode prog_26_method_14_code 17 = .ok (.return_, 1) := by decide +kernel
set_option maxRecDepth 65536 in
set_option maxHeartbeats 40000000 in
theorem rm20 (l : Launch) (Z : State) (a0 : Array Value) (hw : ∀ d ∈ tables_1, d.before a0 Z = true) (ws : List Jvm.Cond) (a1 : Addr) (p1 : Int32) (u0 : Value) (wd : Addr) (kd : ClassId) (vd : List Value) (h0 : Heap) (n0 : Nat) (O0 : Old Z n0 h0) (E1 : Exa Z h0 a1 "com/example/fixlore/fixlore/lang/GraphBuilder") (g1 : n0 ≤ a1) (GP : Fld Z h0 a1 "com/example/fixlore/fixlore/lang/GraphBuilder" "pending" "Ljava/util/List;" u0) (SD : Sta Z Z.heap "java/util/ArrayList" "DEFAULTCAPACITY_EMPTY_ELEMENTDATA" "[Ljava/lang/Object;" (.ref wd)) (VD : Arv Z Z.heap wd kd (.object "java/lang/Object") (0 : Int32) vd .null) :
    MetFree l (⟨"com/example/fixlore/fixlore/lang/GraphBuilder", "follow", "(ILjava/lang/String;)V"⟩ : MethodName) (head1 (Jvm.Cond.code (⟨"com/example/fixlore/fixlore/lang/GraphBuilder", "follow", "(ILjava/lang/String;)V"⟩ : MethodName) prog_26_method_14_code 3 none :: ws) ({ frames := 6, cells := 3, slots := 15, locals := 83 } : Room)) (fun a U => a = #[(.ref a1), (.int p1), .null] ∧ Z.Warmed39 U.vm ∧ U.heap = h0) (fun _ _ _ _ _ => True) (fun _ U o U' => ∃ v L, o = .returned v ∧ Q_rm20 Z a1 p1 u0 wd kd vd h0 n0 v U'.heap L ∧ FrameEnd U o U' L ({ frames := 6, cells := 3, slots := 15, locals := 83 } : Room).cells ({ frames := 6, cells := 3, slots := 15, locals := 83 } : Room).slots) := by
  refine MetFree.of_bodySF (plainFor_of_name pn_9) hisR ?_
  intro p e s m args below meth c s₁ Bd hml0 hP hK
  obtain ⟨rfl, hZ, hh⟩ := hP
  have hx := Bd.exec
  have hby := Bd.bytes
  have hml : c.maxLocals = 3 := hml0
  have hown : s.vm.findClass "com/example/fixlore/fixlore/lang/GraphBuilder" = some m.cls := findClass_of_methodNamed Bd.named
  have hnm := (name_of_methodNamed Bd.named Bd.method).1
  have X0 : Stand p l e ({ frames := 6, cells := 3, slots := 15, locals := 83 } : Room) s m #[(.ref a1), (.int p1), .null] below meth c s₁ [] 0 0 := Stand.of_body Bd
  have e0 : s₁.heap = h0 := by rw [← hh, Bd.state]; rfl
  have N0 := Fr.nil n0
  have Z0 : n0 ≤ h0.size := old_le O0
  have pre0 : ∀ t, Steps p.tables e below (s₁.setTop (mkF m 0 #[.val (.ref a1), .val (.int p1), .val .null] [])) t → Steps p.tables e below (s₁.setTop (entryFrame m #[(.ref a1), (.int p1), .null] 3)) t := fun t k => castTop (ef_rm20 m a1 p1) k
  obtain ⟨T101, h101, X101, e101, E101, A101, D101, -, st101⟩ := newO X0 hx hZ hown (hwk hw 9 rfl) (hwk hw 10 rfl) (hwk hw 11 rfl) e0 (g := (mkF m 1 #[.val (.ref a1), .val (.int p1), .val .null] [(.ref a1)])) rfl (hb hby d20_1) (by decide) (by decide)
  obtain ⟨b101, g101⟩ : ∃ z, z = h0.size := ⟨_, rfl⟩
  rw [← g101] at A101 D101 st101
  have g_b101 : n0 ≤ b101 := Nat.le_trans (old_le O0) (Nat.le_of_eq g101.symm)
  have O102 : Old Z n0 h101 := Old.ext O0 E101
  obtain ⟨_, _, ⟨T103, L103, k103, n103⟩, -, X103, ⟨Lc103, hQ103, l103, y103, z103⟩, st103⟩ := X101.specialBack hx (y := (⟨"java/util/ArrayList", "<init>", "()V"⟩ : MethodName)) rfl hown (mvT hZ (hwk hw 12 rfl)) (mvT hZ (hwk hw 13 rfl)) (mvT hZ (hwk hw 14 rfl)) (by decide) (backOf (W := 2) (rm3 l Z a0 hw [] b101 wd h101 n0 O102 A101 g_b101 (show Fld Z h101 b101 "java/util/AbstractList" "modCount" "I" (.int (0 : Int32)) from D101 (Or.inl (hwk hw 29 rfl)) (ty := .int) (by decide)) (show Fld Z h101 b101 "java/util/ArrayList" "elementData" "[Ljava/lang/Object;" .null from D101 (Or.inl (hwk hw 32 rfl)) (ty := (.array (.object "java/lang/Object"))) (by decide)) (show Fld Z h101 b101 "java/util/ArrayList" "size" "I" (.int (0 : Int32)) from D101 (Or.inl (hwk hw 160 rfl)) (ty := .int) (by decide)) SD) hZ (hwk hw 14 rfl) (hwk hw 11 rfl) (by decide) (by decide)) (g := (mkF m 5 #[.val (.ref a1), .val (.int p1), .val .null] [(.ref b101), (.ref b101), (.ref a1)])) rfl (by rw [hml]; rfl) (Steps.refl _) (a := b101) (argsL := []) (rest := [(.ref b101), (.ref a1)]) (lenOf pd_0 rfl) rfl (by show 2 * 0 + _ ≤ _; exact Nat.le_of_eq rfl) (hb hby d20_5) (fun _ _ => ⟨rfl, e101, (by decide : 1 + 0 ≤ _), (by decide : 3 + 0 ≤ _)⟩)
  dsimp only [Pt.U, Pt.locs, Pt.cells, Pt.slots] at X103 l103 y103 z103 st103 hQ103
  subst l103 y103 z103
  unfold Q_rm3 at hQ103
  obtain ⟨rfl, N103q, K103, f103_0, f103_1, f103_2, f103_3⟩ := hQ103
  have N103 := Fr.app N0 N103q
  have c104 : Exa Z T103.heap a1 "com/example/fixlore/fixlore/lang/GraphBuilder" := (Exa.keep (Exa.ext E101 E1) K103)
  have c105 : Fld Z T103.heap a1 "com/example/fixlore/fixlore/lang/GraphBuilder" "pending" "Ljava/util/List;" u0 := (Fld.keep (Fld.ext E101 GP) K103 (ninS (ne_exa c104 f103_0 (by decide)) nin0))
  obtain ⟨T106, h106, X106, e106, W106, st106⟩ := putF X103 hx hZ hown (host := "") (Or.inl (hwk hw 96 rfl)) Via.refl (rfl : T103.heap = T103.heap) c105 c104 (Or.inl (hwk hw 97 rfl)) (hwk hw 1 rfl) (ty := (.object "java/util/List")) (by decide) rfl rfl (g := (mkF m 8 #[.val (.ref a1), .val (.int p1), .val .null] [(.ref b101), (.ref a1)])) rfl rfl (hb hby d20_8)
  have F106 : Fld Z h106 a1 "com/example/fixlore/fixlore/lang/GraphBuilder" "pending" "Ljava/util/List;" (.ref b101) := Fld.same W106 c105
  have N106 := Fr.snoc X106 N103 g1
  have c107 : Exa Z h106 b101 "java/util/ArrayList" := (Exa.wr W106 f103_0)
  have c108 : Fld Z h106 b101 "java/util/ArrayList" "elementData" "[Ljava/lang/Object;" (.ref wd) := (Fld.other W106 f103_1 (Or.inl (ne_exa f103_0 c104 (by decide))))
  have c109 : Fld Z h106 b101 "java/util/ArrayList" "size" "I" (.int (0 : Int32)) := (Fld.other W106 f103_2 (Or.inl (ne_exa f103_0 c104 (by decide))))
  have c110 : Fld Z h106 b101 "java/util/AbstractList" "modCount" "I" (.int (0 : Int32)) := (Fld.other W106 f103_3 (Or.inl (ne_exa f103_0 c104 (by decide))))
  have O111 : Old Z n0 T103.heap := Old.keep O102 K103 (allS g_b101 all0)
  have O112 : Old Z n0 h106 := Old.wr O111 W106 g1
  have c114 : Exa Z h106 a1 "com/example/fixlore/fixlore/lang/GraphBuilder" := (Exa.wr W106 c104)
  obtain ⟨cq113, kq113, q113a, q113b, q113c⟩ := isOf hZ e106 c114
  obtain ⟨_, _, ⟨T113, L113, k113, n113⟩, -, X113, ⟨Lc113, hQ113, l113, y113, z113⟩, st113⟩ := X106.virtualBack hx (y := (⟨"com/example/fixlore/fixlore/lang/GraphBuilder", "join", "(ILjava/lang/String;)V"⟩ : MethodName)) (z := (⟨"com/example/fixlore/fixlore/lang/GraphBuilder", "join", "(ILjava/lang/String;)V"⟩ : MethodName)) hown (mvT hZ (hwk hw 200 rfl)) (mvT hZ (hwk hw 201 rfl)) (notFace_of_selects (args := #[]) (mvT hZ (hwk hw 203 rfl))) (mvT hZ (hwk hw 203 rfl)) (mvT hZ (hwk hw 202 rfl)) (by decide) (backOf (W := 0) (rm21_0 l Z a0 hw [] a1 p1 .null b101 (0 : Int32) wd kd vd h106 n0 O112 F106 c107 c108 c109 c110 g_b101 (ne_exa c104 f103_0 (by decide)) SD VD rfl) hZ (hwk hw 204 rfl) (hwk hw 2 rfl) (by decide) (by decide)) q113a q113c (g := (mkF m 14 #[.val (.ref a1), .val (.int p1), .val .null] [.null, (.int p1), (.ref a1)])) rfl (by rw [hml]; rfl) (Steps.refl _) (argsL := [(.int p1), .null]) (rest := []) (lenOf pd_9 rfl) rfl (by show 2 * 0 + _ ≤ _; exact Nat.le_of_eq rfl) (hb hby d20_14) (fun _ _ => ⟨rfl, e106, (by decide : 1 + 2 ≤ _), (by decide : 3 + 12 ≤ _)⟩)
  dsimp only [Pt.U, Pt.locs, Pt.cells, Pt.slots] at X113 l113 y113 z113 st113 hQ113
  subst l113 y113 z113
  unfold Q_rm21_0 at hQ113
  obtain ⟨e_113, t_113, k_113, rfl, N113q, K113, ge_e_113, ge_t_113, f113_0, f113_1, f113_2, f113_3, f113_4, f113_5, f113_6, f113_7, f113_8, f113_9⟩ := hQ113
  have N113 := Fr.app N106 N113q
  have g_e_113 : n0 ≤ e_113 := Nat.le_trans (old_le O112) ge_e_113
  have g_t_113 : n0 ≤ t_113 := Nat.le_trans (old_le O112) ge_t_113
  have K115 : Keep h0 h101 [a1] := Keep.ext (Keep.refl h0 [a1]) E101
  have K116 : Keep h0 T103.heap [a1] := Keep.trans K115 K103 (allS (Or.inr (Nat.le_trans (Nat.le_refl _) (Nat.le_of_eq g101.symm))) all0)
  have K117 : Keep h0 h106 [a1] := Keep.wr K116 W106 (Or.inl (List.mem_of_getElem? (i := 0) rfl))
  have K118 : Keep h0 T113.heap [a1] := Keep.trans K117 K113 (allS (Or.inr (Nat.le_trans (Nat.le_refl _) (Nat.le_of_eq g101.symm))) all0)
  have c119 : Exa Z T113.heap a1 "com/example/fixlore/fixlore/lang/GraphBuilder" := (Exa.keep c114 K113)
  have c120 : Fld Z T113.heap a1 "com/example/fixlore/fixlore/lang/GraphBuilder" "pending" "Ljava/util/List;" (.ref b101) := (Fld.keep F106 K113 (ninS (ne_exa c104 f103_0 (by decide)) nin0))
  obtain ⟨fs, hr, hrun, hended, hW, hsame⟩ := X113.leave (v := none) (fun _ => rfl)
  refine ⟨_, _, pre0 _ ?_, hrun, hended, _, _, rfl, ?_, ⟨_, rfl⟩, hW, hsame.mono (by decide) (by decide)⟩
  · show Steps p.tables e below (s₁.setTop (mkF m 0 #[.val (.ref a1), .val (.int p1), .val .null] [])) _
    refine XS.aloadN X0.here hx rfl (hb hby d20_0) rfl rfl ?_
    show Steps p.tables e below (s₁.setTop (mkF m 1 #[.val (.ref a1), .val (.int p1), .val .null] [(.ref a1)])) _
    refine st101 _ ?_
    show Steps p.tables e below (T101.setTop (mkF m 4 #[.val (.ref a1), .val (.int p1), .val .null] [(.ref b101), (.ref a1)])) _
    refine XS.dup X101.here hx rfl (hb hby d20_4) rfl rfl ?_
    show Steps p.tables e below (T101.setTop (mkF m 5 #[.val (.ref a1), .val (.int p1), .val .null] [(.ref b101), (.ref b101), (.ref a1)])) _
    refine st103.trans ?_
    show Steps p.tables e below (T103.setTop (mkF m 8 #[.val (.ref a1), .val (.int p1), .val .null] [(.ref b101), (.ref a1)])) _
    refine st106 _ ?_
    show Steps p.tables e below (T106.setTop (mkF m 11 #[.val (.ref a1), .val (.int p1), .val .null] [])) _
    refine XS.aloadN X106.here hx rfl (hb hby d20_11) rfl rfl ?_
    refine XS.iloadN X106.here hx rfl (hb hby d20_12) rfl ?_
    refine XS.aloadN X106.here hx rfl (hb hby d20_13) rfl rfl ?_
    show Steps p.tables e below (T106.setTop (mkF m 14 #[.val (.ref a1), .val (.int p1), .val .null] [.null, (.int p1), (.ref a1)])) _
    refine st113.trans ?_
    show Steps p.tables e below (T113.setTop (mkF m 17 #[.val (.ref a1), .val (.int p1), .val .null] [])) _
    exact X113.returnOut hx Bd.returns (hb hby d20_17) hr
  · show Q_rm20 Z a1 p1 u0 wd kd vd h0 n0 _ T113.heap _
    unfold Q_rm20
    exact ⟨b101, e_113, t_113, k_113, rfl, N113, K118, (Nat.le_trans (Nat.le_refl _) (Nat.le_of_eq g101.symm)), (Nat.le_trans (Nat.le_trans (Nat.le_trans (Nat.le_trans (Nat.le_refl _) E101.1) K103.1) (Nat.le_of_eq W106.size.symm)) ge_e_113), (Nat.le_trans (Nat.le_trans (Nat.le_trans (Nat.le_trans (Nat.le_refl _) E101.1) K103.1) (Nat.le_of_eq W106.size.symm)) ge_t_113), c119, c120, f113_0, f113_1, f113_2, f113_3, f113_4, f113_5, f113_6, f113_7, f113_8, f113_9⟩
theorem ef_rm24 (m : MethodId) (x0 : Addr) : entryFrame m #[(.ref x0)] 2 = mkF m 0 #[.val (.ref x0), .unset] [] := by first | (simp [entryFrame, mkF, argsToLocals, Value.category]; done) | rfl
def Q_rm24 (Z : State) (a1 : Addr) (l1 : Addr) (wd : Addr) (h0 : Heap) (n0 : Nat) (v : Option Value) (h : Heap) (L : List Loc) : Prop := ∃ l : Addr, (v = some (.ref l1)) ∧ (Fr n0 L) ∧ (Keep h0 h [a1]) ∧ (h0.size ≤ l) ∧ (Exa Z h a1 "com/example/fixlore/fixlore/lang/GraphBuilder") ∧ (Fld Z h a1 "com/example/fixlore/fixlore/lang/GraphBuilder" "pending" "Ljava/util/List;" (.ref l)) ∧ (Exa Z h l "java/util/ArrayList") ∧ (Fld Z h l "java/util/ArrayList" "elementData" "[Ljava/lang/Object;" (.ref wd)) ∧ (Fld Z h l "java/util/ArrayList" "size" "I" (.int (0 : Int32))) ∧ (Fld Z h l "java/util/AbstractList" "modCount" "I" (.int (0 : Int32)))
theorem d24_0 : decode prog_26_method_15_code 0 = .ok (.aload_n 0, 1) := by decide +kernel
theorem d24_1 : decode prog_26_method_15_code 1 = .ok (.getfield 49, 3) := by decide +kernel
theorem d24_4 : decode prog_26_method_15_code 4 = .ok (.astore_n 1, 1) := by decide +kernel
theorem d24_5 : decode prog_26_method_15_code 5 = .ok (.aload_n 0, 1) := by decide +kernel
theorem d24_6 : decode prog_26_method_15_code 6 = .ok (.new 7, 3) := by decide +kernel
theorem d24_9 : decode prog_26_method_15_code 9 = .ok (.dup, 1) := by decide +kernel
theorem d24_10 : decode prog_26_method_15_code 10 = .ok (.invokespecial 9, 3) := by decide +kernel
theorem d24_13 : decode prog_26_method_15_code 13 = .ok (.putfield 49, 3) := by decide +kernel
theorem d24_16 : decode prog_26_method_15_code 16 = .ok (.aload_n 1, 1) := by decide +kernel
theorem d24_17 : decode prog_26_method_15_code 17 = .ok (.areturn, 1) := by decide +kernel
set_option maxRecDepth 65536 in
set_option maxHeartbeats 40000000 in
theorem rm24 (l : Launch) (Z : State) (a0 : Array Value) (hw : ∀ d ∈ tables_1, d.before a0 Z = true) (ws : List Jvm.Cond) (a1 : Addr) (l1 : Addr) (wd : Addr) (h0 : Heap) (n0 : Nat) (O0 : Old Z n0 h0) (E1 : Exa Z h0 a1 "com/example/fixlore/fixlore/lang/GraphBuilder") (g1 : n0 ≤ a1) (GP : Fld Z h0 a1 "com/example/fixlore/fixlore/lang/GraphBuilder" "pending" "Ljava/util/List;" (.ref l1)) (SD : Sta Z Z.heap "java/util/ArrayList" "DEFAULTCAPACITY_EMPTY_ELEMENTDATA" "[Ljava/lang/Object;" (.ref wd)) :
    MetFree l (⟨"com/example/fixlore/fixlore/lang/GraphBuilder", "suspend", "()Ljava/util/List;"⟩ : MethodName) (head1 (Jvm.Cond.code (⟨"com/example/fixlore/fixlore/lang/GraphBuilder", "suspend", "()Ljava/util/List;"⟩ : MethodName) prog_26_method_15_code 2 (some (.object "java/util/List")) :: ws) ({ frames := 4, cells := 1, slots := 3, locals := 50 } : Room)) (fun a U => a = #[(.ref a1)] ∧ Z.Warmed39 U.vm ∧ U.heap = h0) (fun _ _ _ _ _ => True) (fun _ U o U' => ∃ v L, o = .returned v ∧ Q_rm24 Z a1 l1 wd h0 n0 v U'.heap L ∧ FrameEnd U o U' L ({ frames := 4, cells := 1, slots := 3, locals := 50 } : Room).cells ({ frames := 4, cells := 1, slots := 3, locals := 50 } : Room).slots) := by
  refine MetFree.of_bodySF (plainFor_of_name pn_9) hisR ?_
  intro p e s m args below meth c s₁ Bd hml0 hP hK
  obtain ⟨rfl, hZ, hh⟩ := hP
  have hx := Bd.exec
  have hby := Bd.bytes
  have hml : c.maxLocals = 2 := hml0
  have hown : s.vm.findClass "com/example/fixlore/fixlore/lang/GraphBuilder" = some m.cls := findClass_of_methodNamed Bd.named
  have hnm := (name_of_methodNamed Bd.named Bd.method).1
  have X0 : Stand p l e ({ frames := 4, cells := 1, slots := 3, locals := 50 } : Room) s m #[(.ref a1)] below meth c s₁ [] 0 0 := Stand.of_body Bd
  have e0 : s₁.heap = h0 := by rw [← hh, Bd.state]; rfl
  have N0 := Fr.nil n0
  have Z0 : n0 ≤ h0.size := old_le O0
  have pre0 : ∀ t, Steps p.tables e below (s₁.setTop (mkF m 0 #[.val (.ref a1), .unset] [])) t → Steps p.tables e below (s₁.setTop (entryFrame m #[(.ref a1)] 2)) t := fun t k => castTop (ef_rm24 m a1) k
  obtain ⟨T101, X101, e101, st101⟩ := getF X0 hx hZ hown (host := "") (Or.inl (hwk hw 96 rfl)) Via.refl e0 GP (g := (mkF m 1 #[.val (.ref a1), .unset] [(.ref a1)])) rfl rfl (hb hby d24_1)
  obtain ⟨T102, h102, X102, e102, E102, A102, D102, -, st102⟩ := newO X101 hx hZ hown (hwk hw 9 rfl) (hwk hw 10 rfl) (hwk hw 11 rfl) e101 (g := (mkF m 6 #[.val (.ref a1), .val (.ref l1)] [(.ref a1)])) rfl (hb hby d24_6) (by decide) (by decide)
  obtain ⟨b102, g102⟩ : ∃ z, z = h0.size := ⟨_, rfl⟩
  rw [← g102] at A102 D102 st102
  have g_b102 : n0 ≤ b102 := Nat.le_trans (old_le O0) (Nat.le_of_eq g102.symm)
  have O103 : Old Z n0 h102 := Old.ext O0 E102
  obtain ⟨_, _, ⟨T104, L104, k104, n104⟩, -, X104, ⟨Lc104, hQ104, l104, y104, z104⟩, st104⟩ := X102.specialBack hx (y := (⟨"java/util/ArrayList", "<init>", "()V"⟩ : MethodName)) rfl hown (mvT hZ (hwk hw 12 rfl)) (mvT hZ (hwk hw 13 rfl)) (mvT hZ (hwk hw 14 rfl)) (by decide) (backOf (W := 2) (rm3 l Z a0 hw [] b102 wd h102 n0 O103 A102 g_b102 (show Fld Z h102 b102 "java/util/AbstractList" "modCount" "I" (.int (0 : Int32)) from D102 (Or.inl (hwk hw 29 rfl)) (ty := .int) (by decide)) (show Fld Z h102 b102 "java/util/ArrayList" "elementData" "[Ljava/lang/Object;" .null from D102 (Or.inl (hwk hw 32 rfl)) (ty := (.array (.object "java/lang/Object"))) (by decide)) (show Fld Z h102 b102 "java/util/ArrayList" "size" "I" (.int (0 : Int32)) from D102 (Or.inl (hwk hw 160 rfl)) (ty := .int) (by decide)) SD) hZ (hwk hw 14 rfl) (hwk hw 11 rfl) (by decide) (by decide)) (g := (mkF m 10 #[.val (.ref a1), .val (.ref l1)] [(.ref b102), (.ref b102), (.ref a1)])) rfl (by rw [hml]; rfl) (Steps.refl _) (a := b102) (argsL := []) (rest := [(.ref b102), (.ref a1)]) (lenOf pd_0 rfl) rfl (by show 2 * 0 + _ ≤ _; exact Nat.le_of_eq rfl) (hb hby d24_10) (fun _ _ => ⟨rfl, e102, (by decide : 1 + 0 ≤ _), (by decide : 3 + 0 ≤ _)⟩)
  dsimp only [Pt.U, Pt.locs, Pt.cells, Pt.slots] at X104 l104 y104 z104 st104 hQ104
  subst l104 y104 z104
  unfold Q_rm3 at hQ104
  obtain ⟨rfl, N104q, K104, f104_0, f104_1, f104_2, f104_3⟩ := hQ104
  have N104 := Fr.app N0 N104q
  have c105 : Exa Z T104.heap a1 "com/example/fixlore/fixlore/lang/GraphBuilder" := (Exa.keep (Exa.ext E102 E1) K104)
  have c106 : Fld Z T104.heap a1 "com/example/fixlore/fixlore/lang/GraphBuilder" "pending" "Ljava/util/List;" (.ref l1) := (Fld.keep (Fld.ext E102 GP) K104 (ninS (ne_exa c105 f104_0 (by decide)) nin0))
  obtain ⟨T107, h107, X107, e107, W107, st107⟩ := putF X104 hx hZ hown (host := "") (Or.inl (hwk hw 96 rfl)) Via.refl (rfl : T104.heap = T104.heap) c106 c105 (Or.inl (hwk hw 97 rfl)) (hwk hw 1 rfl) (ty := (.object "java/util/List")) (by decide) rfl rfl (g := (mkF m 13 #[.val (.ref a1), .val (.ref l1)] [(.ref b102), (.ref a1)])) rfl rfl (hb hby d24_13)
  have F107 : Fld Z h107 a1 "com/example/fixlore/fixlore/lang/GraphBuilder" "pending" "Ljava/util/List;" (.ref b102) := Fld.same W107 c106
  have N107 := Fr.snoc X107 N104 g1
  have K108 : Keep h0 h102 [a1] := Keep.ext (Keep.refl h0 [a1]) E102
  have K109 : Keep h0 T104.heap [a1] := Keep.trans K108 K104 (allS (Or.inr (Nat.le_trans (Nat.le_refl _) (Nat.le_of_eq g102.symm))) all0)
  have K110 : Keep h0 h107 [a1] := Keep.wr K109 W107 (Or.inl (List.mem_of_getElem? (i := 0) rfl))
  have c111 : Exa Z h107 a1 "com/example/fixlore/fixlore/lang/GraphBuilder" := (Exa.wr W107 c105)
  have c112 : Exa Z h107 b102 "java/util/ArrayList" := (Exa.wr W107 f104_0)
  have c113 : Fld Z h107 b102 "java/util/ArrayList" "elementData" "[Ljava/lang/Object;" (.ref wd) := (Fld.other W107 f104_1 (Or.inl (ne_exa f104_0 c105 (by decide))))
  have c114 : Fld Z h107 b102 "java/util/ArrayList" "size" "I" (.int (0 : Int32)) := (Fld.other W107 f104_2 (Or.inl (ne_exa f104_0 c105 (by decide))))
  have c115 : Fld Z h107 b102 "java/util/AbstractList" "modCount" "I" (.int (0 : Int32)) := (Fld.other W107 f104_3 (Or.inl (ne_exa f104_0 c105 (by decide))))
  obtain ⟨fs, hr, hrun, hended, hW, hsame⟩ := X107.leave (v := some (.ref l1)) (fun h => by rw [Bd.returns] at h; cases h)
  refine ⟨_, _, pre0 _ ?_, hrun, hended, _, _, rfl, ?_, ⟨_, rfl⟩, hW, hsame.mono (by decide) (by decide)⟩
  · show Steps p.tables e below (s₁.setTop (mkF m 0 #[.val (.ref a1), .unset] [])) _
    refine XS.aloadN X0.here hx rfl (hb hby d24_0) rfl rfl ?_
    show Steps p.tables e below (s₁.setTop (mkF m 1 #[.val (.ref a1), .unset] [(.ref a1)])) _
    refine st101 _ ?_
    show Steps p.tables e below (T101.setTop (mkF m 4 #[.val (.ref a1), .unset] [(.ref l1)])) _
    refine XS.astoreN X101.here hx rfl (hb hby d24_4) rfl rfl (l' := #[.val (.ref a1), .val (.ref l1)]) rfl ?_
    show Steps p.tables e below (T101.setTop (mkF m 5 #[.val (.ref a1), .val (.ref l1)] [])) _
    refine XS.aloadN X101.here hx rfl (hb hby d24_5) rfl rfl ?_
    show Steps p.tables e below (T101.setTop (mkF m 6 #[.val (.ref a1), .val (.ref l1)] [(.ref a1)])) _
    refine st102 _ ?_
    show Steps p.tables e below (T102.setTop (mkF m 9 #[.val (.ref a1), .val (.ref l1)] [(.ref b102), (.ref a1)])) _
    refine XS.dup X102.here hx rfl (hb hby d24_9) rfl rfl ?_
    show Steps p.tables e below (T102.setTop (mkF m 10 #[.val (.ref a1), .val (.ref l1)] [(.ref b102), (.ref b102), (.ref a1)])) _
    refine st104.trans ?_
    show Steps p.tables e below (T104.setTop (mkF m 13 #[.val (.ref a1), .val (.ref l1)] [(.ref b102), (.ref a1)])) _
    refine st107 _ ?_
    show Steps p.tables e below (T107.setTop (mkF m 16 #[.val (.ref a1), .val (.ref l1)] [])) _
    refine XS.aloadN X107.here hx rfl (hb hby d24_16) rfl rfl ?_
    show Steps p.tables e below (T107.setTop (mkF m 17 #[.val (.ref a1), .val (.ref l1)] [(.ref l1)])) _
    exact Jvm.RoadKit.retOut X107 hx Bd.returns rfl (Or.inr (Or.inr (Or.inr (Or.inr ⟨rfl, rfl, rfl⟩)))) (hb hby d24_17) hr
  · show Q_rm24 Z a1 l1 wd h0 n0 _ T107.heap _
    rw [e107]
    unfold Q_rm24
    exact ⟨b102, rfl, N107, K110, (Nat.le_trans (Nat.le_refl _) (Nat.le_of_eq g102.symm)), c111, F107, c112, c113, c114, c115⟩
theorem ef_rm28 (m : MethodId) (x0 : Addr) (x1 : Int32) : entryFrame m #[(.ref x0), (.int x1)] 2 = mkF m 0 #[.val (.ref x0), .val (.int x1)] [] := by first | (simp [entryFrame, mkF, argsToLocals, Value.category]; done) | rfl
def Q_rm28 (Z : State) (a1 : Addr) (p1 : Int32) (t1 : Addr) (k1 : ClassId) (vs1 : List Value) (r1 : Addr) (h0 : Heap) (n0 : Nat) (v : Option Value) (h : Heap) (L : List Loc) : Prop := (v = some (.ref r1)) ∧ (Fr n0 L) ∧ (h = h0)
theorem d28_0 : decode jdk_38_method_18_code 0 = .ok (.aload_n 0, 1) := by decide +kernel
theorem d28_1 : decode jdk_38_method_18_code 1 = .ok (.getfield 9, 3) := by decide +kernel
theorem d28_4 : decode jdk_38_method_18_code 4 = .ok (.iload_n 1, 1) := by decide +kernel
theorem d28_5 : decode jdk_38_method_18_code 5 = .ok (.aaload, 1) := by decide +kernel
theorem d28_6 : decode jdk_38_method_18_code 6 = .ok (.areturn, 1) := by decide +kernel
set_option maxRecDepth 65536 in
set_option maxHeartbeats 40000000 in
theorem rm28 (l : Launch) (Z : State) (a0 : Array Value) (hw : ∀ d ∈ tables_1, d.before a0 Z = true) (ws : List Jvm.Cond) (a1 : Addr) (p1 : Int32) (t1 : Addr) (k1 : ClassId) (vs1 : List Value) (r1 : Addr) (h0 : Heap) (n0 : Nat) (O0 : Old Z n0 h0) (LD : Fld Z h0 a1 "java/util/ArrayList" "elementData" "[Ljava/lang/Object;" (.ref t1)) (LV : Arv Z h0 t1 k1 (.object "java/lang/Object") (10 : Int32) vs1 .null) (hat : vs1.getD p1.toNatClampNeg .null = .ref r1) (h0i : ¬ (p1 < (0 : Int32))) (h10 : p1 < (10 : Int32)) :
    MetFree l (⟨"java/util/ArrayList", "elementData", "(I)Ljava/lang/Object;"⟩ : MethodName) (head1 (Jvm.Cond.code (⟨"java/util/ArrayList", "elementData", "(I)Ljava/lang/Object;"⟩ : MethodName) jdk_38_method_18_code 2 (some (.object "java/lang/Object")) :: ws) ({ frames := 0, cells := 0, slots := 0, locals := 0 } : Room)) (fun a U => a = #[(.ref a1), (.int p1)] ∧ Z.Warmed39 U.vm ∧ U.heap = h0) (fun _ _ _ _ _ => True) (fun _ U o U' => ∃ v L, o = .returned v ∧ Q_rm28 Z a1 p1 t1 k1 vs1 r1 h0 n0 v U'.heap L ∧ FrameEnd U o U' L ({ frames := 0, cells := 0, slots := 0, locals := 0 } : Room).cells ({ frames := 0, cells := 0, slots := 0, locals := 0 } : Room).slots) := by
  refine MetFree.of_bodySF (plainFor_of_name pn_2) hisR ?_
  intro p e s m args below meth c s₁ Bd hml0 hP hK
  obtain ⟨rfl, hZ, hh⟩ := hP
  have hx := Bd.exec
  have hby := Bd.bytes
  have hml : c.maxLocals = 2 := hml0
  have hown : s.vm.findClass "java/util/ArrayList" = some m.cls := findClass_of_methodNamed Bd.named
  have hnm := (name_of_methodNamed Bd.named Bd.method).1
  have X0 : Stand p l e ({ frames := 0, cells := 0, slots := 0, locals := 0 } : Room) s m #[(.ref a1), (.int p1)] below meth c s₁ [] 0 0 := Stand.of_body Bd
  have e0 : s₁.heap = h0 := by rw [← hh, Bd.state]; rfl
  have N0 := Fr.nil n0
  have Z0 : n0 ≤ h0.size := old_le O0
  have pre0 : ∀ t, Steps p.tables e below (s₁.setTop (mkF m 0 #[.val (.ref a1), .val (.int p1)] [])) t → Steps p.tables e below (s₁.setTop (entryFrame m #[(.ref a1), (.int p1)] 2)) t := fun t k => castTop (ef_rm28 m a1 p1) k
  obtain ⟨T101, X101, e101, st101⟩ := getF X0 hx hZ hown (host := "") (Or.inl (hwk hw 31 rfl)) Via.refl e0 LD (g := (mkF m 1 #[.val (.ref a1), .val (.int p1)] [(.ref a1)])) rfl rfl (hb hby d28_1)
  obtain ⟨clq102, Arq102, kqq102, Szq102, Nnq102, Hsq102, Gsq102⟩ := id LV
  have hinq102 : ¬ (p1 < 0 ∨ clq102.slots.size ≤ (p1).toNatClampNeg) := inb_of Szq102 ⟨h0i, h10⟩
  obtain ⟨fs, hr, hrun, hended, hW, hsame⟩ := X101.leave (v := some (.ref r1)) (fun h => by rw [Bd.returns] at h; cases h)
  refine ⟨_, _, pre0 _ ?_, hrun, hended, _, _, rfl, ?_, ⟨_, rfl⟩, hW, hsame.mono (by decide) (by decide)⟩
  · show Steps p.tables e below (s₁.setTop (mkF m 0 #[.val (.ref a1), .val (.int p1)] [])) _
    refine XS.aloadN X0.here hx rfl (hb hby d28_0) rfl rfl ?_
    show Steps p.tables e below (s₁.setTop (mkF m 1 #[.val (.ref a1), .val (.int p1)] [(.ref a1)])) _
    refine st101 _ ?_
    show Steps p.tables e below (T101.setTop (mkF m 4 #[.val (.ref a1), .val (.int p1)] [(.ref t1)])) _
    refine XS.iloadN X101.here hx rfl (hb hby d28_4) rfl ?_
    show Steps p.tables e below (T101.setTop (mkF m 5 #[.val (.ref a1), .val (.int p1)] [(.int p1), (.ref t1)])) _
    refine X101.aaload hx (j := p1) (v := (.ref r1)) (by rw [e101]; exact Arq102.1) (State.isArrayOf_alike hZ.alike Arq102.2.1) rfl Arq102.2.2 hinq102 (Has.at Hsq102 hinq102 hat) (g := (mkF m 5 #[.val (.ref a1), .val (.int p1)] [(.int p1), (.ref t1)])) rfl rfl (hb hby d28_5) _ ?_
    show Steps p.tables e below (T101.setTop (mkF m 6 #[.val (.ref a1), .val (.int p1)] [(.ref r1)])) _
    exact Jvm.RoadKit.retOut X101 hx Bd.returns rfl (Or.inr (Or.inr (Or.inr (Or.inr ⟨rfl, rfl, rfl⟩)))) (hb hby d28_6) hr
  · show Q_rm28 Z a1 p1 t1 k1 vs1 r1 h0 n0 _ T101.heap _
    rw [e101]
    unfold Q_rm28
    exact ⟨rfl, N0, rfl⟩
theorem ef_rm27 (m : MethodId) (x0 : Int32) (x1 : Int32) : entryFrame m #[(.int x0), (.int x1), .null] 3 = mkF m 0 #[.val (.int x0), .val (.int x1), .val .null] [] := by first | (simp [entryFrame, mkF, argsToLocals, Value.category]; done) | rfl
def Q_rm27 (Z : State) (p1 : Int32) (p2 : Int32) (h0 : Heap) (n0 : Nat) (v : Option Value) (h : Heap) (L : List Loc) : Prop := (v = some (.int p1)) ∧ (Fr n0 L) ∧ (h = h0)
theorem pn_12 : plainName "jdk/internal/util/Preconditions" = true := by first | (simp [plainName, overriddenIn]; done) | decide +kernel
theorem d27_0 : decode jdk_41_method_11_code 0 = .ok (.iload_n 0, 1) := by decide +kernel
theorem d27_1 : decode jdk_41_method_11_code 1 = .ok (.ifCond .lt 8, 3) := by decide +kernel
theorem d27_4 : decode jdk_41_method_11_code 4 = .ok (.iload_n 0, 1) := by decide +kernel
theorem d27_5 : decode jdk_41_method_11_code 5 = .ok (.iload_n 1, 1) := by decide +kernel
theorem d27_6 : decode jdk_41_method_11_code 6 = .ok (.if_icmp .lt 10, 3) := by decide +kernel
theorem d27_16 : decode jdk_41_method_11_code 16 = .ok (.iload_n 0, 1) := by decide +kernel
theorem d27_17 : decode jdk_41_method_11_code 17 = .ok (.ireturn, 1) := by decide +kernel
set_option maxRecDepth 65536 in
set_option maxHeartbeats 40000000 in
theorem rm27 (l : Launch) (Z : State) (a0 : Array Value) (hw : ∀ d ∈ tables_1, d.before a0 Z = true) (ws : List Jvm.Cond) (p1 : Int32) (p2 : Int32) (h0 : Heap) (n0 : Nat) (O0 : Old Z n0 h0) (h0i : ¬ (p1 < (0 : Int32))) (hlt : p1 < p2) :
    MetFree l (⟨"jdk/internal/util/Preconditions", "checkIndex", "(IILjava/util/function/BiFunction;)I"⟩ : MethodName) (head1 (Jvm.Cond.code (⟨"jdk/internal/util/Preconditions", "checkIndex", "(IILjava/util/function/BiFunction;)I"⟩ : MethodName) jdk_41_method_11_code 3 (some .int) :: ws) ({ frames := 0, cells := 0, slots := 0, locals := 0 } : Room)) (fun a U => a = #[(.int p1), (.int p2), .null] ∧ Z.Warmed39 U.vm ∧ U.heap = h0) (fun _ _ _ _ _ => True) (fun _ U o U' => ∃ v L, o = .returned v ∧ Q_rm27 Z p1 p2 h0 n0 v U'.heap L ∧ FrameEnd U o U' L ({ frames := 0, cells := 0, slots := 0, locals := 0 } : Room).cells ({ frames := 0, cells := 0, slots := 0, locals := 0 } : Room).slots) := by
  refine MetFree.of_bodySF (plainFor_of_name pn_12) hisR ?_
  intro p e s m args below meth c s₁ Bd hml0 hP hK
  obtain ⟨rfl, hZ, hh⟩ := hP
  have hx := Bd.exec
  have hby := Bd.bytes
  have hml : c.maxLocals = 3 := hml0
  have hown : s.vm.findClass "jdk/internal/util/Preconditions" = some m.cls := findClass_of_methodNamed Bd.named
  have hnm := (name_of_methodNamed Bd.named Bd.method).1
  have X0 : Stand p l e ({ frames := 0, cells := 0, slots := 0, locals := 0 } : Room) s m #[(.int p1), (.int p2), .null] below meth c s₁ [] 0 0 := Stand.of_body Bd
  have e0 : s₁.heap = h0 := by rw [← hh, Bd.state]; rfl
  have N0 := Fr.nil n0
  have Z0 : n0 ≤ h0.size := old_le O0
  have pre0 : ∀ t, Steps p.tables e below (s₁.setTop (mkF m 0 #[.val (.int p1), .val (.int p2), .val .null] [])) t → Steps p.tables e below (s₁.setTop (entryFrame m #[(.int p1), (.int p2), .null] 3)) t := fun t k => castTop (ef_rm27 m p1 p2) k
  obtain ⟨fs, hr, hrun, hended, hW, hsame⟩ := X0.leave (v := some (.int p1)) (fun h => by rw [Bd.returns] at h; cases h)
  refine ⟨_, _, pre0 _ ?_, hrun, hended, _, _, rfl, ?_, ⟨_, rfl⟩, hW, hsame.mono (by decide) (by decide)⟩
  · show Steps p.tables e below (s₁.setTop (mkF m 0 #[.val (.int p1), .val (.int p2), .val .null] [])) _
    refine XS.iloadN X0.here hx rfl (hb hby d27_0) rfl ?_
    refine XS.ifNo X0.here hx rfl (hb hby d27_1) rfl ((if0 _ _).trans (flt (h0i : ¬ (p1 < (0 : Int32)))).1) ?_
    show Steps p.tables e below (s₁.setTop (mkF m 4 #[.val (.int p1), .val (.int p2), .val .null] [])) _
    refine XS.iloadN X0.here hx rfl (hb hby d27_4) rfl ?_
    refine XS.iloadN X0.here hx rfl (hb hby d27_5) rfl ?_
    refine XS.icmpYes X0.here hx rfl (pc0 := 6) (pc' := 16) rfl (hb hby d27_6) rfl (tlt (hlt : p1 < p2)).1 (by decide) (by decide) ?_
    show Steps p.tables e below (s₁.setTop (mkF m 16 #[.val (.int p1), .val (.int p2), .val .null] [])) _
    refine XS.iloadN X0.here hx rfl (hb hby d27_16) rfl ?_
    show Steps p.tables e below (s₁.setTop (mkF m 17 #[.val (.int p1), .val (.int p2), .val .null] [(.int p1)])) _
    exact Jvm.RoadKit.retOut X0 hx Bd.returns rfl (Or.inl ⟨rfl, by simp, _, rfl⟩) (hb hby d27_17) hr
  · show Q_rm27 Z p1 p2 h0 n0 _ s₁.heap _
    rw [e0]
    unfold Q_rm27
    exact ⟨rfl, N0, rfl⟩
theorem ef_rm26 (m : MethodId) (x0 : Int32) (x1 : Int32) : entryFrame m #[(.int x0), (.int x1)] 2 = mkF m 0 #[.val (.int x0), .val (.int x1)] [] := by first | (simp [entryFrame, mkF, argsToLocals, Value.category]; done) | rfl
def Q_rm26 (Z : State) (p1 : Int32) (p2 : Int32) (h0 : Heap) (n0 : Nat) (v : Option Value) (h : Heap) (L : List Loc) : Prop := (v = some (.int p1)) ∧ (Fr n0 L) ∧ (h = h0)
theorem pn_13 : plainName "java/util/Objects" = true := by first | (simp [plainName, overriddenIn]; done) | decide +kernel
theorem d26_0 : decode jdk_31_method_17_code 0 = .ok (.iload_n 0, 1) := by decide +kernel
theorem d26_1 : decode jdk_31_method_17_code 1 = .ok (.iload_n 1, 1) := by decide +kernel
theorem d26_2 : decode jdk_31_method_17_code 2 = .ok (.aconst_null, 1) := by decide +kernel
theorem d26_3 : decode jdk_31_method_17_code 3 = .ok (.invokestatic 105, 3) := by decide +kernel
theorem pd_10 : parseMethodDescriptor "(IILjava/util/function/BiFunction;)I" = some ⟨[.int, .int, (.object "java/util/function/BiFunction")], some .int⟩ := by decide +kernel
theorem d26_6 : decode jdk_31_method_17_code 6 = .ok (.ireturn, 1) := by decide +kernel
set_option maxRecDepth 65536 in
set_option maxHeartbeats 40000000 in
theorem rm26 (l : Launch) (Z : State) (a0 : Array Value) (hw : ∀ d ∈ tables_1, d.before a0 Z = true) (ws : List Jvm.Cond) (p1 : Int32) (p2 : Int32) (h0 : Heap) (n0 : Nat) (O0 : Old Z n0 h0) (h0i : ¬ (p1 < (0 : Int32))) (hlt : p1 < p2) :
    MetFree l (⟨"java/util/Objects", "checkIndex", "(II)I"⟩ : MethodName) (head1 (Jvm.Cond.code (⟨"java/util/Objects", "checkIndex", "(II)I"⟩ : MethodName) jdk_31_method_17_code 2 (some .int) :: ws) ({ frames := 1, cells := 0, slots := 0, locals := 14 } : Room)) (fun a U => a = #[(.int p1), (.int p2)] ∧ Z.Warmed39 U.vm ∧ U.heap = h0) (fun _ _ _ _ _ => True) (fun _ U o U' => ∃ v L, o = .returned v ∧ Q_rm26 Z p1 p2 h0 n0 v U'.heap L ∧ FrameEnd U o U' L ({ frames := 1, cells := 0, slots := 0, locals := 14 } : Room).cells ({ frames := 1, cells := 0, slots := 0, locals := 14 } : Room).slots) := by
  refine MetFree.of_bodySF (plainFor_of_name pn_13) hisR ?_
  intro p e s m args below meth c s₁ Bd hml0 hP hK
  obtain ⟨rfl, hZ, hh⟩ := hP
  have hx := Bd.exec
  have hby := Bd.bytes
  have hml : c.maxLocals = 2 := hml0
  have hown : s.vm.findClass "java/util/Objects" = some m.cls := findClass_of_methodNamed Bd.named
  have hnm := (name_of_methodNamed Bd.named Bd.method).1
  have X0 : Stand p l e ({ frames := 1, cells := 0, slots := 0, locals := 14 } : Room) s m #[(.int p1), (.int p2)] below meth c s₁ [] 0 0 := Stand.of_body Bd
  have e0 : s₁.heap = h0 := by rw [← hh, Bd.state]; rfl
  have N0 := Fr.nil n0
  have Z0 : n0 ≤ h0.size := old_le O0
  have pre0 : ∀ t, Steps p.tables e below (s₁.setTop (mkF m 0 #[.val (.int p1), .val (.int p2)] [])) t → Steps p.tables e below (s₁.setTop (entryFrame m #[(.int p1), (.int p2)] 2)) t := fun t k => castTop (ef_rm26 m p1 p2) k
  obtain ⟨_, _, ⟨T101, L101, k101, n101⟩, -, X101, ⟨Lc101, hQ101, l101, y101, z101⟩, st101⟩ := Jvm.LawKit.callS X0 hx (y := (⟨"jdk/internal/util/Preconditions", "checkIndex", "(IILjava/util/function/BiFunction;)I"⟩ : MethodName)) hown (mvT hZ (hwk hw 241 rfl)) (mvT hZ (hwk hw 242 rfl)) (mvT hZ (hwk hw 243 rfl)) (mvT hZ (hwk hw 244 rfl)) (by decide) (backOf (W := 0) (rm27 l Z a0 hw [] p1 p2 h0 n0 O0 h0i hlt) hZ (hwk hw 244 rfl) (hwk hw 243 rfl) (by decide) (by decide)) (g := (mkF m 3 #[.val (.int p1), .val (.int p2)] [.null, (.int p2), (.int p1)])) rfl (by rw [hml]; rfl) (argsL := [(.int p1), (.int p2), .null]) (rest := []) (lenOf pd_10 rfl) rfl (by show 2 * 0 + _ ≤ _; exact Nat.le_of_eq rfl) (hb hby d26_3) (fun _ _ => ⟨rfl, e0, (by decide : 0 + 0 ≤ _), (by decide : 0 + 0 ≤ _)⟩)
  dsimp only [Pt.U, Pt.locs, Pt.cells, Pt.slots] at X101 l101 y101 z101 st101 hQ101
  subst l101 y101 z101
  unfold Q_rm27 at hQ101
  obtain ⟨rfl, N101q, e101⟩ := hQ101
  have N101 := Fr.app N0 N101q
  obtain ⟨fs, hr, hrun, hended, hW, hsame⟩ := X101.leave (v := some (.int p1)) (fun h => by rw [Bd.returns] at h; cases h)
  refine ⟨_, _, pre0 _ ?_, hrun, hended, _, _, rfl, ?_, ⟨_, rfl⟩, hW, hsame.mono (by decide) (by decide)⟩
  · show Steps p.tables e below (s₁.setTop (mkF m 0 #[.val (.int p1), .val (.int p2)] [])) _
    refine XS.iloadN X0.here hx rfl (hb hby d26_0) rfl ?_
    refine XS.iloadN X0.here hx rfl (hb hby d26_1) rfl ?_
    refine XS.aconstNull X0.here hx rfl (hb hby d26_2) ?_
    show Steps p.tables e below (s₁.setTop (mkF m 3 #[.val (.int p1), .val (.int p2)] [.null, (.int p2), (.int p1)])) _
    refine st101 _ ?_
    show Steps p.tables e below (T101.setTop (mkF m 6 #[.val (.int p1), .val (.int p2)] [(.int p1)])) _
    exact Jvm.RoadKit.retOut X101 hx Bd.returns rfl (Or.inl ⟨rfl, by simp, _, rfl⟩) (hb hby d26_6) hr
  · show Q_rm26 Z p1 p2 h0 n0 _ T101.heap _
    rw [e101]
    unfold Q_rm26
    exact ⟨rfl, N101, rfl⟩
theorem ef_rm25 (m : MethodId) (x0 : Addr) (x1 : Int32) : entryFrame m #[(.ref x0), (.int x1)] 2 = mkF m 0 #[.val (.ref x0), .val (.int x1)] [] := by first | (simp [entryFrame, mkF, argsToLocals, Value.category]; done) | rfl
def Q_rm25 (Z : State) (a1 : Addr) (p1 : Int32) (p2 : Int32) (t1 : Addr) (k1 : ClassId) (vs1 : List Value) (r1 : Addr) (h0 : Heap) (n0 : Nat) (v : Option Value) (h : Heap) (L : List Loc) : Prop := (v = some (.ref r1)) ∧ (Fr n0 L) ∧ (h = h0)
theorem d25_0 : decode jdk_38_method_20_code 0 = .ok (.iload_n 1, 1) := by decide +kernel
theorem d25_1 : decode jdk_38_method_20_code 1 = .ok (.aload_n 0, 1) := by decide +kernel
theorem d25_2 : decode jdk_38_method_20_code 2 = .ok (.getfield 48, 3) := by decide +kernel
theorem d25_5 : decode jdk_38_method_20_code 5 = .ok (.invokestatic 118, 3) := by decide +kernel
theorem d25_8 : decode jdk_38_method_20_code 8 = .ok (.pop, 1) := by decide +kernel
theorem d25_9 : decode jdk_38_method_20_code 9 = .ok (.aload_n 0, 1) := by decide +kernel
theorem d25_10 : decode jdk_38_method_20_code 10 = .ok (.iload_n 1, 1) := by decide +kernel
theorem d25_11 : decode jdk_38_method_20_code 11 = .ok (.invokevirtual 123, 3) := by decide +kernel
theorem pd_11 : parseMethodDescriptor "(I)Ljava/lang/Object;" = some ⟨[.int], some (.object "java/lang/Object")⟩ := by decide +kernel
theorem d25_14 : decode jdk_38_method_20_code 14 = .ok (.areturn, 1) := by decide +kernel
set_option maxRecDepth 65536 in
set_option maxHeartbeats 40000000 in
theorem rm25 (l : Launch) (Z : State) (a0 : Array Value) (hw : ∀ d ∈ tables_1, d.before a0 Z = true) (ws : List Jvm.Cond) (a1 : Addr) (p1 : Int32) (p2 : Int32) (t1 : Addr) (k1 : ClassId) (vs1 : List Value) (r1 : Addr) (h0 : Heap) (n0 : Nat) (O0 : Old Z n0 h0) (LE : Exa Z h0 a1 "java/util/ArrayList") (LS : Fld Z h0 a1 "java/util/ArrayList" "size" "I" (.int p2)) (LD : Fld Z h0 a1 "java/util/ArrayList" "elementData" "[Ljava/lang/Object;" (.ref t1)) (LV : Arv Z h0 t1 k1 (.object "java/lang/Object") (10 : Int32) vs1 .null) (hat : vs1.getD p1.toNatClampNeg .null = .ref r1) (h0i : ¬ (p1 < (0 : Int32))) (h10 : p1 < (10 : Int32)) (hlt : p1 < p2) :
    MetFree l (⟨"java/util/ArrayList", "get", "(I)Ljava/lang/Object;"⟩ : MethodName) (head1 (Jvm.Cond.code (⟨"java/util/ArrayList", "get", "(I)Ljava/lang/Object;"⟩ : MethodName) jdk_38_method_20_code 2 (some (.object "java/lang/Object")) :: ws) ({ frames := 2, cells := 0, slots := 0, locals := 27 } : Room)) (fun a U => a = #[(.ref a1), (.int p1)] ∧ Z.Warmed39 U.vm ∧ U.heap = h0) (fun _ _ _ _ _ => True) (fun _ U o U' => ∃ v L, o = .returned v ∧ Q_rm25 Z a1 p1 p2 t1 k1 vs1 r1 h0 n0 v U'.heap L ∧ FrameEnd U o U' L ({ frames := 2, cells := 0, slots := 0, locals := 27 } : Room).cells ({ frames := 2, cells := 0, slots := 0, locals := 27 } : Room).slots) := by
  refine MetFree.of_bodySF (plainFor_of_name pn_2) hisR ?_
  intro p e s m args below meth c s₁ Bd hml0 hP hK
  obtain ⟨rfl, hZ, hh⟩ := hP
  have hx := Bd.exec
  have hby := Bd.bytes
  have hml : c.maxLocals = 2 := hml0
  have hown : s.vm.findClass "java/util/ArrayList" = some m.cls := findClass_of_methodNamed Bd.named
  have hnm := (name_of_methodNamed Bd.named Bd.method).1
  have X0 : Stand p l e ({ frames := 2, cells := 0, slots := 0, locals := 27 } : Room) s m #[(.ref a1), (.int p1)] below meth c s₁ [] 0 0 := Stand.of_body Bd
  have e0 : s₁.heap = h0 := by rw [← hh, Bd.state]; rfl
  have N0 := Fr.nil n0
  have Z0 : n0 ≤ h0.size := old_le O0
  have pre0 : ∀ t, Steps p.tables e below (s₁.setTop (mkF m 0 #[.val (.ref a1), .val (.int p1)] [])) t → Steps p.tables e below (s₁.setTop (entryFrame m #[(.ref a1), (.int p1)] 2)) t := fun t k => castTop (ef_rm25 m a1 p1) k
  obtain ⟨T101, X101, e101, st101⟩ := getF X0 hx hZ hown (host := "") (Or.inl (hwk hw 159 rfl)) Via.refl e0 LS (g := (mkF m 2 #[.val (.ref a1), .val (.int p1)] [(.ref a1), (.int p1)])) rfl rfl (hb hby d25_2)
  obtain ⟨_, _, ⟨T102, L102, k102, n102⟩, -, X102, ⟨Lc102, hQ102, l102, y102, z102⟩, st102⟩ := Jvm.LawKit.callS X101 hx (y := (⟨"java/util/Objects", "checkIndex", "(II)I"⟩ : MethodName)) hown (mvT hZ (hwk hw 237 rfl)) (mvT hZ (hwk hw 238 rfl)) (mvT hZ (hwk hw 239 rfl)) (mvT hZ (hwk hw 240 rfl)) (by decide) (backOf (W := 0) (rm26 l Z a0 hw [] p1 p2 h0 n0 O0 h0i hlt) hZ (hwk hw 240 rfl) (hwk hw 239 rfl) (by decide) (by decide)) (g := (mkF m 5 #[.val (.ref a1), .val (.int p1)] [(.int p2), (.int p1)])) rfl (by rw [hml]; rfl) (argsL := [(.int p1), (.int p2)]) (rest := []) (lenOf pd_1 rfl) rfl (by show 2 * 0 + _ ≤ _; exact Nat.le_of_eq rfl) (hb hby d25_5) (fun _ _ => ⟨rfl, e101, (by decide : 0 + 0 ≤ _), (by decide : 0 + 0 ≤ _)⟩)
  dsimp only [Pt.U, Pt.locs, Pt.cells, Pt.slots] at X102 l102 y102 z102 st102 hQ102
  subst l102 y102 z102
  unfold Q_rm26 at hQ102
  obtain ⟨rfl, N102q, e102⟩ := hQ102
  have N102 := Fr.app N0 N102q
  obtain ⟨cq103, kq103, q103a, q103b, q103c⟩ := isOf hZ e102 LE
  obtain ⟨_, _, ⟨T103, L103, k103, n103⟩, -, X103, ⟨Lc103, hQ103, l103, y103, z103⟩, st103⟩ := X102.virtualBack hx (y := (⟨"java/util/ArrayList", "elementData", "(I)Ljava/lang/Object;"⟩ : MethodName)) (z := (⟨"java/util/ArrayList", "elementData", "(I)Ljava/lang/Object;"⟩ : MethodName)) hown (mvT hZ (hwk hw 245 rfl)) (mvT hZ (hwk hw 246 rfl)) (notFace_of_selects (args := #[]) (mvT hZ (hwk hw 248 rfl))) (mvT hZ (hwk hw 248 rfl)) (mvT hZ (hwk hw 247 rfl)) (by decide) (backOf (W := 0) (rm28 l Z a0 hw [] a1 p1 t1 k1 vs1 r1 h0 n0 O0 LD LV hat h0i h10) hZ (hwk hw 249 rfl) (hwk hw 11 rfl) (by decide) (by decide)) q103a q103c (g := (mkF m 11 #[.val (.ref a1), .val (.int p1)] [(.int p1), (.ref a1)])) rfl (by rw [hml]; rfl) (Steps.refl _) (argsL := [(.int p1)]) (rest := []) (lenOf pd_11 rfl) rfl (by show 2 * 0 + _ ≤ _; exact Nat.le_of_eq rfl) (hb hby d25_11) (fun _ _ => ⟨rfl, e102, (by decide : 0 + 0 ≤ _), (by decide : 0 + 0 ≤ _)⟩)
  dsimp only [Pt.U, Pt.locs, Pt.cells, Pt.slots] at X103 l103 y103 z103 st103 hQ103
  subst l103 y103 z103
  unfold Q_rm28 at hQ103
  obtain ⟨rfl, N103q, e103⟩ := hQ103
  have N103 := Fr.app N102 N103q
  obtain ⟨fs, hr, hrun, hended, hW, hsame⟩ := X103.leave (v := some (.ref r1)) (fun h => by rw [Bd.returns] at h; cases h)
  refine ⟨_, _, pre0 _ ?_, hrun, hended, _, _, rfl, ?_, ⟨_, rfl⟩, hW, hsame.mono (by decide) (by decide)⟩
  · show Steps p.tables e below (s₁.setTop (mkF m 0 #[.val (.ref a1), .val (.int p1)] [])) _
    refine XS.iloadN X0.here hx rfl (hb hby d25_0) rfl ?_
    refine XS.aloadN X0.here hx rfl (hb hby d25_1) rfl rfl ?_
    show Steps p.tables e below (s₁.setTop (mkF m 2 #[.val (.ref a1), .val (.int p1)] [(.ref a1), (.int p1)])) _
    refine st101 _ ?_
    show Steps p.tables e below (T101.setTop (mkF m 5 #[.val (.ref a1), .val (.int p1)] [(.int p2), (.int p1)])) _
    refine st102 _ ?_
    show Steps p.tables e below (T102.setTop (mkF m 8 #[.val (.ref a1), .val (.int p1)] [(.int p1)])) _
    refine XS.pop X102.here hx rfl (hb hby d25_8) rfl rfl ?_
    show Steps p.tables e below (T102.setTop (mkF m 9 #[.val (.ref a1), .val (.int p1)] [])) _
    refine XS.aloadN X102.here hx rfl (hb hby d25_9) rfl rfl ?_
    refine XS.iloadN X102.here hx rfl (hb hby d25_10) rfl ?_
    show Steps p.tables e below (T102.setTop (mkF m 11 #[.val (.ref a1), .val (.int p1)] [(.int p1), (.ref a1)])) _
    refine st103.trans ?_
    show Steps p.tables e below (T103.setTop (mkF m 14 #[.val (.ref a1), .val (.int p1)] [(.ref r1)])) _
    exact Jvm.RoadKit.retOut X103 hx Bd.returns rfl (Or.inr (Or.inr (Or.inr (Or.inr ⟨rfl, rfl, rfl⟩)))) (hb hby d25_14) hr
  · show Q_rm25 Z a1 p1 p2 t1 k1 vs1 r1 h0 n0 _ T103.heap _
    rw [e103]
    unfold Q_rm25
    exact ⟨rfl, N103, rfl⟩
theorem ef_rm30 (m : MethodId) (x0 : Addr) : entryFrame m #[(.ref x0)] 1 = mkF m 0 #[.val (.ref x0)] [] := by first | (simp [entryFrame, mkF, argsToLocals, Value.category]; done) | rfl
def Q_rm30 (Z : State) (a1 : Addr) (p1 : Int32) (h0 : Heap) (n0 : Nat) (v : Option Value) (h : Heap) (L : List Loc) : Prop := (v = some (.int p1)) ∧ (Fr n0 L) ∧ (h = h0)
theorem d30_0 : decode prog_28_method_5_code 0 = .ok (.aload_n 0, 1) := by decide +kernel
theorem d30_1 : decode prog_28_method_5_code 1 = .ok (.getfield 7, 3) := by decide +kernel
theorem d30_4 : decode prog_28_method_5_code 4 = .ok (.ireturn, 1) := by decide +kernel
set_option maxRecDepth 65536 in
set_option maxHeartbeats 40000000 in
theorem rm30 (l : Launch) (Z : State) (a0 : Array Value) (hw : ∀ d ∈ tables_1, d.before a0 Z = true) (ws : List Jvm.Cond) (a1 : Addr) (p1 : Int32) (h0 : Heap) (n0 : Nat) (O0 : Old Z n0 h0) (F1 : Fld Z h0 a1 "com/example/fixlore/fixlore/lang/GraphBuilder$End" "from" "I" (.int p1)) :
    MetFree l (⟨"com/example/fixlore/fixlore/lang/GraphBuilder$End", "from", "()I"⟩ : MethodName) (head1 (Jvm.Cond.code (⟨"com/example/fixlore/fixlore/lang/GraphBuilder$End", "from", "()I"⟩ : MethodName) prog_28_method_5_code 1 (some .int) :: ws) ({ frames := 0, cells := 0, slots := 0, locals := 0 } : Room)) (fun a U => a = #[(.ref a1)] ∧ Z.Warmed39 U.vm ∧ U.heap = h0) (fun _ _ _ _ _ => True) (fun _ U o U' => ∃ v L, o = .returned v ∧ Q_rm30 Z a1 p1 h0 n0 v U'.heap L ∧ FrameEnd U o U' L ({ frames := 0, cells := 0, slots := 0, locals := 0 } : Room).cells ({ frames := 0, cells := 0, slots := 0, locals := 0 } : Room).slots) := by
  refine MetFree.of_bodySF (plainFor_of_name pn_11) hisR ?_
  intro p e s m args below meth c s₁ Bd hml0 hP hK
  obtain ⟨rfl, hZ, hh⟩ := hP
  have hx := Bd.exec
  have hby := Bd.bytes
  have hml : c.maxLocals = 1 := hml0
  have hown : s.vm.findClass "com/example/fixlore/fixlore/lang/GraphBuilder$End" = some m.cls := findClass_of_methodNamed Bd.named
  have hnm := (name_of_methodNamed Bd.named Bd.method).1
  have X0 : Stand p l e ({ frames := 0, cells := 0, slots := 0, locals := 0 } : Room) s m #[(.ref a1)] below meth c s₁ [] 0 0 := Stand.of_body Bd
  have e0 : s₁.heap = h0 := by rw [← hh, Bd.state]; rfl
  have N0 := Fr.nil n0
  have Z0 : n0 ≤ h0.size := old_le O0
  have pre0 : ∀ t, Steps p.tables e below (s₁.setTop (mkF m 0 #[.val (.ref a1)] [])) t → Steps p.tables e below (s₁.setTop (entryFrame m #[(.ref a1)] 1)) t := fun t k => castTop (ef_rm30 m a1) k
  obtain ⟨T101, X101, e101, st101⟩ := getF X0 hx hZ hown (host := "") (Or.inl (hwk hw 217 rfl)) Via.refl e0 F1 (g := (mkF m 1 #[.val (.ref a1)] [(.ref a1)])) rfl rfl (hb hby d30_1)
  obtain ⟨fs, hr, hrun, hended, hW, hsame⟩ := X101.leave (v := some (.int p1)) (fun h => by rw [Bd.returns] at h; cases h)
  refine ⟨_, _, pre0 _ ?_, hrun, hended, _, _, rfl, ?_, ⟨_, rfl⟩, hW, hsame.mono (by decide) (by decide)⟩
  · show Steps p.tables e below (s₁.setTop (mkF m 0 #[.val (.ref a1)] [])) _
    refine XS.aloadN X0.here hx rfl (hb hby d30_0) rfl rfl ?_
    show Steps p.tables e below (s₁.setTop (mkF m 1 #[.val (.ref a1)] [(.ref a1)])) _
    refine st101 _ ?_
    show Steps p.tables e below (T101.setTop (mkF m 4 #[.val (.ref a1)] [(.int p1)])) _
    exact Jvm.RoadKit.retOut X101 hx Bd.returns rfl (Or.inl ⟨rfl, by simp, _, rfl⟩) (hb hby d30_4) hr
  · show Q_rm30 Z a1 p1 h0 n0 _ T101.heap _
    rw [e101]
    unfold Q_rm30
    exact ⟨rfl, N0, rfl⟩
theorem ef_rm31n (m : MethodId) (x0 : Addr) : entryFrame m #[(.ref x0)] 1 = mkF m 0 #[.val (.ref x0)] [] := by first | (simp [entryFrame, mkF, argsToLocals, Value.category]; done) | rfl
def Q_rm31n (Z : State) (a1 : Addr) (h0 : Heap) (n0 : Nat) (v : Option Value) (h : Heap) (L : List Loc) : Prop := (v = some .null) ∧ (Fr n0 L) ∧ (h = h0)
theorem d31_0 : decode prog_28_method_6_code 0 = .ok (.aload_n 0, 1) := by decide +kernel
theorem d31_1 : decode prog_28_method_6_code 1 = .ok (.getfield 13, 3) := by decide +kernel
theorem d31_4 : decode prog_28_method_6_code 4 = .ok (.areturn, 1) := by decide +kernel
set_option maxRecDepth 65536 in
set_option maxHeartbeats 40000000 in
theorem rm31n (l : Launch) (Z : State) (a0 : Array Value) (hw : ∀ d ∈ tables_1, d.before a0 Z = true) (ws : List Jvm.Cond) (a1 : Addr) (h0 : Heap) (n0 : Nat) (O0 : Old Z n0 h0) (F1 : Fld Z h0 a1 "com/example/fixlore/fixlore/lang/GraphBuilder$End" "branch" "Ljava/lang/String;" .null) :
    MetFree l (⟨"com/example/fixlore/fixlore/lang/GraphBuilder$End", "branch", "()Ljava/lang/String;"⟩ : MethodName) (head1 (Jvm.Cond.code (⟨"com/example/fixlore/fixlore/lang/GraphBuilder$End", "branch", "()Ljava/lang/String;"⟩ : MethodName) prog_28_method_6_code 1 (some (.object "java/lang/String")) :: ws) ({ frames := 0, cells := 0, slots := 0, locals := 0 } : Room)) (fun a U => a = #[(.ref a1)] ∧ Z.Warmed39 U.vm ∧ U.heap = h0) (fun _ _ _ _ _ => True) (fun _ U o U' => ∃ v L, o = .returned v ∧ Q_rm31n Z a1 h0 n0 v U'.heap L ∧ FrameEnd U o U' L ({ frames := 0, cells := 0, slots := 0, locals := 0 } : Room).cells ({ frames := 0, cells := 0, slots := 0, locals := 0 } : Room).slots) := by
  refine MetFree.of_bodySF (plainFor_of_name pn_11) hisR ?_
  intro p e s m args below meth c s₁ Bd hml0 hP hK
  obtain ⟨rfl, hZ, hh⟩ := hP
  have hx := Bd.exec
  have hby := Bd.bytes
  have hml : c.maxLocals = 1 := hml0
  have hown : s.vm.findClass "com/example/fixlore/fixlore/lang/GraphBuilder$End" = some m.cls := findClass_of_methodNamed Bd.named
  have hnm := (name_of_methodNamed Bd.named Bd.method).1
  have X0 : Stand p l e ({ frames := 0, cells := 0, slots := 0, locals := 0 } : Room) s m #[(.ref a1)] below meth c s₁ [] 0 0 := Stand.of_body Bd
  have e0 : s₁.heap = h0 := by rw [← hh, Bd.state]; rfl
  have N0 := Fr.nil n0
  have Z0 : n0 ≤ h0.size := old_le O0
  have pre0 : ∀ t, Steps p.tables e below (s₁.setTop (mkF m 0 #[.val (.ref a1)] [])) t → Steps p.tables e below (s₁.setTop (entryFrame m #[(.ref a1)] 1)) t := fun t k => castTop (ef_rm31n m a1) k
  obtain ⟨T101, X101, e101, st101⟩ := getF X0 hx hZ hown (host := "") (Or.inl (hwk hw 219 rfl)) Via.refl e0 F1 (g := (mkF m 1 #[.val (.ref a1)] [(.ref a1)])) rfl rfl (hb hby d31_1)
  obtain ⟨fs, hr, hrun, hended, hW, hsame⟩ := X101.leave (v := some .null) (fun h => by rw [Bd.returns] at h; cases h)
  refine ⟨_, _, pre0 _ ?_, hrun, hended, _, _, rfl, ?_, ⟨_, rfl⟩, hW, hsame.mono (by decide) (by decide)⟩
  · show Steps p.tables e below (s₁.setTop (mkF m 0 #[.val (.ref a1)] [])) _
    refine XS.aloadN X0.here hx rfl (hb hby d31_0) rfl rfl ?_
    show Steps p.tables e below (s₁.setTop (mkF m 1 #[.val (.ref a1)] [(.ref a1)])) _
    refine st101 _ ?_
    show Steps p.tables e below (T101.setTop (mkF m 4 #[.val (.ref a1)] [.null])) _
    exact Jvm.RoadKit.retOut X101 hx Bd.returns rfl (Or.inr (Or.inr (Or.inr (Or.inr ⟨rfl, rfl, rfl⟩)))) (hb hby d31_4) hr
  · show Q_rm31n Z a1 h0 n0 _ T101.heap _
    rw [e101]
    unfold Q_rm31n
    exact ⟨rfl, N0, rfl⟩
theorem ef_rm31r (m : MethodId) (x0 : Addr) : entryFrame m #[(.ref x0)] 1 = mkF m 0 #[.val (.ref x0)] [] := by first | (simp [entryFrame, mkF, argsToLocals, Value.category]; done) | rfl
def Q_rm31r (Z : State) (a1 : Addr) (r1 : Addr) (h0 : Heap) (n0 : Nat) (v : Option Value) (h : Heap) (L : List Loc) : Prop := (v = some (.ref r1)) ∧ (Fr n0 L) ∧ (h = h0)
set_option maxRecDepth 65536 in
set_option maxHeartbeats 40000000 in
theorem rm31r (l : Launch) (Z : State) (a0 : Array Value) (hw : ∀ d ∈ tables_1, d.before a0 Z = true) (ws : List Jvm.Cond) (a1 : Addr) (r1 : Addr) (h0 : Heap) (n0 : Nat) (O0 : Old Z n0 h0) (F1 : Fld Z h0 a1 "com/example/fixlore/fixlore/lang/GraphBuilder$End" "branch" "Ljava/lang/String;" (.ref r1)) :
    MetFree l (⟨"com/example/fixlore/fixlore/lang/GraphBuilder$End", "branch", "()Ljava/lang/String;"⟩ : MethodName) (head1 (Jvm.Cond.code (⟨"com/example/fixlore/fixlore/lang/GraphBuilder$End", "branch", "()Ljava/lang/String;"⟩ : MethodName) prog_28_method_6_code 1 (some (.object "java/lang/String")) :: ws) ({ frames := 0, cells := 0, slots := 0, locals := 0 } : Room)) (fun a U => a = #[(.ref a1)] ∧ Z.Warmed39 U.vm ∧ U.heap = h0) (fun _ _ _ _ _ => True) (fun _ U o U' => ∃ v L, o = .returned v ∧ Q_rm31r Z a1 r1 h0 n0 v U'.heap L ∧ FrameEnd U o U' L ({ frames := 0, cells := 0, slots := 0, locals := 0 } : Room).cells ({ frames := 0, cells := 0, slots := 0, locals := 0 } : Room).slots) := by
  refine MetFree.of_bodySF (plainFor_of_name pn_11) hisR ?_
  intro p e s m args below meth c s₁ Bd hml0 hP hK
  obtain ⟨rfl, hZ, hh⟩ := hP
  have hx := Bd.exec
  have hby := Bd.bytes
  have hml : c.maxLocals = 1 := hml0
  have hown : s.vm.findClass "com/example/fixlore/fixlore/lang/GraphBuilder$End" = some m.cls := findClass_of_methodNamed Bd.named
  have hnm := (name_of_methodNamed Bd.named Bd.method).1
  have X0 : Stand p l e ({ frames := 0, cells := 0, slots := 0, locals := 0 } : Room) s m #[(.ref a1)] below meth c s₁ [] 0 0 := Stand.of_body Bd
  have e0 : s₁.heap = h0 := by rw [← hh, Bd.state]; rfl
  have N0 := Fr.nil n0
  have Z0 : n0 ≤ h0.size := old_le O0
  have pre0 : ∀ t, Steps p.tables e below (s₁.setTop (mkF m 0 #[.val (.ref a1)] [])) t → Steps p.tables e below (s₁.setTop (entryFrame m #[(.ref a1)] 1)) t := fun t k => castTop (ef_rm31r m a1) k
  obtain ⟨T101, X101, e101, st101⟩ := getF X0 hx hZ hown (host := "") (Or.inl (hwk hw 219 rfl)) Via.refl e0 F1 (g := (mkF m 1 #[.val (.ref a1)] [(.ref a1)])) rfl rfl (hb hby d31_1)
  obtain ⟨fs, hr, hrun, hended, hW, hsame⟩ := X101.leave (v := some (.ref r1)) (fun h => by rw [Bd.returns] at h; cases h)
  refine ⟨_, _, pre0 _ ?_, hrun, hended, _, _, rfl, ?_, ⟨_, rfl⟩, hW, hsame.mono (by decide) (by decide)⟩
  · show Steps p.tables e below (s₁.setTop (mkF m 0 #[.val (.ref a1)] [])) _
    refine XS.aloadN X0.here hx rfl (hb hby d31_0) rfl rfl ?_
    show Steps p.tables e below (s₁.setTop (mkF m 1 #[.val (.ref a1)] [(.ref a1)])) _
    refine st101 _ ?_
    show Steps p.tables e below (T101.setTop (mkF m 4 #[.val (.ref a1)] [(.ref r1)])) _
    exact Jvm.RoadKit.retOut X101 hx Bd.returns rfl (Or.inr (Or.inr (Or.inr (Or.inr ⟨rfl, rfl, rfl⟩)))) (hb hby d31_4) hr
  · show Q_rm31r Z a1 r1 h0 n0 _ T101.heap _
    rw [e101]
    unfold Q_rm31r
    exact ⟨rfl, N0, rfl⟩
theorem ef_rm36 (m : MethodId) (x0 : Addr) (x1 : Addr) : entryFrame m #[(.ref x0), (.ref x1)] 3 = mkF m 0 #[.val (.ref x0), .val (.ref x1), .unset] [] := by first | (simp [entryFrame, mkF, argsToLocals, Value.category]; done) | rfl
def Q_rm36 (Z : State) (a1 : Addr) (h0 : Heap) (n0 : Nat) (v : Option Value) (h : Heap) (L : List Loc) : Prop := (v = some (.int (1 : Int32))) ∧ (Fr n0 L) ∧ (h = h0)
theorem pn_14 : plainName "java/lang/String" = true := by first | (simp [plainName, overriddenIn]; done) | decide +kernel
theorem d36_0 : decode jdk_42_method_66_code 0 = .ok (.aload_n 0, 1) := by decide +kernel
theorem d36_1 : decode jdk_42_method_66_code 1 = .ok (.aload_n 1, 1) := by decide +kernel
theorem d36_2 : decode jdk_42_method_66_code 2 = .ok (.if_acmp .ne 5, 3) := by decide +kernel
theorem d36_5 : decode jdk_42_method_66_code 5 = .ok (.iconst 1, 1) := by decide +kernel
theorem d36_6 : decode jdk_42_method_66_code 6 = .ok (.ireturn, 1) := by decide +kernel
set_option maxRecDepth 65536 in
set_option maxHeartbeats 40000000 in
theorem rm36 (l : Launch) (Z : State) (a0 : Array Value) (hw : ∀ d ∈ tables_1, d.before a0 Z = true) (ws : List Jvm.Cond) (a1 : Addr) (h0 : Heap) (n0 : Nat) (O0 : Old Z n0 h0)  :
    MetFree l (⟨"java/lang/String", "equals", "(Ljava/lang/Object;)Z"⟩ : MethodName) (head1 (Jvm.Cond.code (⟨"java/lang/String", "equals", "(Ljava/lang/Object;)Z"⟩ : MethodName) jdk_42_method_66_code 3 (some .boolean) :: ws) ({ frames := 0, cells := 0, slots := 0, locals := 0 } : Room)) (fun a U => a = #[(.ref a1), (.ref a1)] ∧ Z.Warmed39 U.vm ∧ U.heap = h0) (fun _ _ _ _ _ => True) (fun _ U o U' => ∃ v L, o = .returned v ∧ Q_rm36 Z a1 h0 n0 v U'.heap L ∧ FrameEnd U o U' L ({ frames := 0, cells := 0, slots := 0, locals := 0 } : Room).cells ({ frames := 0, cells := 0, slots := 0, locals := 0 } : Room).slots) := by
  refine MetFree.of_bodySF (plainFor_of_name pn_14) hisR ?_
  intro p e s m args below meth c s₁ Bd hml0 hP hK
  obtain ⟨rfl, hZ, hh⟩ := hP
  have hx := Bd.exec
  have hby := Bd.bytes
  have hml : c.maxLocals = 3 := hml0
  have hown : s.vm.findClass "java/lang/String" = some m.cls := findClass_of_methodNamed Bd.named
  have hnm := (name_of_methodNamed Bd.named Bd.method).1
  have X0 : Stand p l e ({ frames := 0, cells := 0, slots := 0, locals := 0 } : Room) s m #[(.ref a1), (.ref a1)] below meth c s₁ [] 0 0 := Stand.of_body Bd
  have e0 : s₁.heap = h0 := by rw [← hh, Bd.state]; rfl
  have N0 := Fr.nil n0
  have Z0 : n0 ≤ h0.size := old_le O0
  have pre0 : ∀ t, Steps p.tables e below (s₁.setTop (mkF m 0 #[.val (.ref a1), .val (.ref a1), .unset] [])) t → Steps p.tables e below (s₁.setTop (entryFrame m #[(.ref a1), (.ref a1)] 3)) t := fun t k => castTop (ef_rm36 m a1 a1) k
  obtain ⟨fs, hr, hrun, hended, hW, hsame⟩ := X0.leave (v := some (.int (1 : Int32))) (fun h => by rw [Bd.returns] at h; cases h)
  refine ⟨_, _, pre0 _ ?_, hrun, hended, _, _, rfl, ?_, ⟨_, rfl⟩, hW, hsame.mono (by decide) (by decide)⟩
  · show Steps p.tables e below (s₁.setTop (mkF m 0 #[.val (.ref a1), .val (.ref a1), .unset] [])) _
    refine XS.aloadN X0.here hx rfl (hb hby d36_0) rfl rfl ?_
    refine XS.aloadN X0.here hx rfl (hb hby d36_1) rfl rfl ?_
    show Steps p.tables e below (s₁.setTop (mkF m 2 #[.val (.ref a1), .val (.ref a1), .unset] [(.ref a1), (.ref a1)])) _
    refine Jvm.RoadKit.acmp (g := (mkF m 2 #[.val (.ref a1), .val (.ref a1), .unset] [(.ref a1), (.ref a1)])) X0 hx rfl rfl rfl (pc0 := 2) (pc' := 5) (same := true) rfl (hb hby d36_2) rfl (decide_eq_true rfl) (by decide) (by decide) ?_
    show Steps p.tables e below (s₁.setTop (mkF m 5 #[.val (.ref a1), .val (.ref a1), .unset] [])) _
    refine XS.iconst X0.here hx rfl (hb hby d36_5) ?_
    show Steps p.tables e below (s₁.setTop (mkF m 6 #[.val (.ref a1), .val (.ref a1), .unset] [(.int (1 : Int32))])) _
    exact Jvm.RoadKit.retOut X0 hx Bd.returns rfl (Or.inl ⟨rfl, by simp, _, rfl⟩) (hb hby d36_6) hr
  · show Q_rm36 Z a1 h0 n0 _ s₁.heap _
    rw [e0]
    unfold Q_rm36
    exact ⟨rfl, N0, rfl⟩
theorem ef_rm29n (m : MethodId) (x0 : Addr) (x1 : Int32) : entryFrame m #[(.ref x0), (.int x1), .null] 3 = mkF m 0 #[.val (.ref x0), .val (.int x1), .val .null] [] := by first | (simp [entryFrame, mkF, argsToLocals, Value.category]; done) | rfl
def Q_rm29n (Z : State) (a1 : Addr) (p1 : Int32) (h0 : Heap) (n0 : Nat) (v : Option Value) (h : Heap) (L : List Loc) : Prop := (v = some (.int (1 : Int32))) ∧ (Fr n0 L) ∧ (h = h0)
theorem pn_15 : plainName "com/example/fixlore/fixlore/lang/GraphBuilderSuspendPinLaw" = true := by first | (simp [plainName, overriddenIn]; done) | decide +kernel
theorem d29_0 : decode method_2_code 0 = .ok (.aload_n 0, 1) := by decide +kernel
theorem d29_1 : decode method_2_code 1 = .ok (.invokevirtual 7, 3) := by decide +kernel
theorem d29_4 : decode method_2_code 4 = .ok (.iload_n 1, 1) := by decide +kernel
theorem d29_5 : decode method_2_code 5 = .ok (.if_icmp .eq 5, 3) := by decide +kernel
theorem d29_10 : decode method_2_code 10 = .ok (.aload_n 2, 1) := by decide +kernel
theorem d29_11 : decode method_2_code 11 = .ok (.ifnonnull 16, 3) := by decide +kernel
theorem d29_14 : decode method_2_code 14 = .ok (.aload_n 0, 1) := by decide +kernel
theorem d29_15 : decode method_2_code 15 = .ok (.invokevirtual 13, 3) := by decide +kernel
theorem pd_12 : parseMethodDescriptor "()Ljava/lang/String;" = some ⟨[], some (.object "java/lang/String")⟩ := by decide +kernel
theorem d29_18 : decode method_2_code 18 = .ok (.ifnonnull 7, 3) := by decide +kernel
theorem d29_21 : decode method_2_code 21 = .ok (.iconst 1, 1) := by decide +kernel
theorem d29_22 : decode method_2_code 22 = .ok (.goto 4, 3) := by decide +kernel
theorem d29_26 : decode method_2_code 26 = .ok (.ireturn, 1) := by decide +kernel
set_option maxRecDepth 65536 in
set_option maxHeartbeats 40000000 in
theorem rm29n (l : Launch) (Z : State) (a0 : Array Value) (hw : ∀ d ∈ tables_1, d.before a0 Z = true) (ws : List Jvm.Cond) (a1 : Addr) (p1 : Int32) (h0 : Heap) (n0 : Nat) (O0 : Old Z n0 h0) (F0 : Exa Z h0 a1 "com/example/fixlore/fixlore/lang/GraphBuilder$End") (F1 : Fld Z h0 a1 "com/example/fixlore/fixlore/lang/GraphBuilder$End" "from" "I" (.int p1)) (F2 : Fld Z h0 a1 "com/example/fixlore/fixlore/lang/GraphBuilder$End" "branch" "Ljava/lang/String;" .null) :
    MetFree l (⟨"com/example/fixlore/fixlore/lang/GraphBuilderSuspendPinLaw", "endIs", "(Lcom/example/fixlore/fixlore/lang/GraphBuilder$End;ILjava/lang/String;)Z"⟩ : MethodName) (head1 (Jvm.Cond.code (⟨"com/example/fixlore/fixlore/lang/GraphBuilderSuspendPinLaw", "endIs", "(Lcom/example/fixlore/fixlore/lang/GraphBuilder$End;ILjava/lang/String;)Z"⟩ : MethodName) method_2_code 3 (some .boolean) :: ws) ({ frames := 1, cells := 0, slots := 0, locals := 12 } : Room)) (fun a U => a = #[(.ref a1), (.int p1), .null] ∧ Z.Warmed39 U.vm ∧ U.heap = h0) (fun _ _ _ _ _ => True) (fun _ U o U' => ∃ v L, o = .returned v ∧ Q_rm29n Z a1 p1 h0 n0 v U'.heap L ∧ FrameEnd U o U' L ({ frames := 1, cells := 0, slots := 0, locals := 12 } : Room).cells ({ frames := 1, cells := 0, slots := 0, locals := 12 } : Room).slots) := by
  refine MetFree.of_bodySF (plainFor_of_name pn_15) hisR ?_
  intro p e s m args below meth c s₁ Bd hml0 hP hK
  obtain ⟨rfl, hZ, hh⟩ := hP
  have hx := Bd.exec
  have hby := Bd.bytes
  have hml : c.maxLocals = 3 := hml0
  have hown : s.vm.findClass "com/example/fixlore/fixlore/lang/GraphBuilderSuspendPinLaw" = some m.cls := findClass_of_methodNamed Bd.named
  have hnm := (name_of_methodNamed Bd.named Bd.method).1
  have X0 : Stand p l e ({ frames := 1, cells := 0, slots := 0, locals := 12 } : Room) s m #[(.ref a1), (.int p1), .null] below meth c s₁ [] 0 0 := Stand.of_body Bd
  have e0 : s₁.heap = h0 := by rw [← hh, Bd.state]; rfl
  have N0 := Fr.nil n0
  have Z0 : n0 ≤ h0.size := old_le O0
  have pre0 : ∀ t, Steps p.tables e below (s₁.setTop (mkF m 0 #[.val (.ref a1), .val (.int p1), .val .null] [])) t → Steps p.tables e below (s₁.setTop (entryFrame m #[(.ref a1), (.int p1), .null] 3)) t := fun t k => castTop (ef_rm29n m a1 p1) k
  obtain ⟨cq101, kq101, q101a, q101b, q101c⟩ := isOf hZ e0 F0
  obtain ⟨_, _, ⟨T101, L101, k101, n101⟩, -, X101, ⟨Lc101, hQ101, l101, y101, z101⟩, st101⟩ := X0.virtualBack hx (y := (⟨"com/example/fixlore/fixlore/lang/GraphBuilder$End", "from", "()I"⟩ : MethodName)) (z := (⟨"com/example/fixlore/fixlore/lang/GraphBuilder$End", "from", "()I"⟩ : MethodName)) hown (mvT hZ (hwk hw 256 rfl)) (mvT hZ (hwk hw 257 rfl)) (notFace_of_selects (args := #[]) (mvT hZ (hwk hw 259 rfl))) (mvT hZ (hwk hw 259 rfl)) (mvT hZ (hwk hw 258 rfl)) (by decide) (backOf (W := 0) (rm30 l Z a0 hw [] a1 p1 h0 n0 O0 F1) hZ (hwk hw 260 rfl) (hwk hw 207 rfl) (by decide) (by decide)) q101a q101c (g := (mkF m 1 #[.val (.ref a1), .val (.int p1), .val .null] [(.ref a1)])) rfl (by rw [hml]; rfl) (Steps.refl _) (argsL := []) (rest := []) (lenOf pd_8 rfl) rfl (by show 2 * 0 + _ ≤ _; exact Nat.le_of_eq rfl) (hb hby d29_1) (fun _ _ => ⟨rfl, e0, (by decide : 0 + 0 ≤ _), (by decide : 0 + 0 ≤ _)⟩)
  dsimp only [Pt.U, Pt.locs, Pt.cells, Pt.slots] at X101 l101 y101 z101 st101 hQ101
  subst l101 y101 z101
  unfold Q_rm30 at hQ101
  obtain ⟨rfl, N101q, e101⟩ := hQ101
  have N101 := Fr.app N0 N101q
  obtain ⟨cq102, kq102, q102a, q102b, q102c⟩ := isOf hZ e101 F0
  obtain ⟨_, _, ⟨T102, L102, k102, n102⟩, -, X102, ⟨Lc102, hQ102, l102, y102, z102⟩, st102⟩ := X101.virtualBack hx (y := (⟨"com/example/fixlore/fixlore/lang/GraphBuilder$End", "branch", "()Ljava/lang/String;"⟩ : MethodName)) (z := (⟨"com/example/fixlore/fixlore/lang/GraphBuilder$End", "branch", "()Ljava/lang/String;"⟩ : MethodName)) hown (mvT hZ (hwk hw 261 rfl)) (mvT hZ (hwk hw 262 rfl)) (notFace_of_selects (args := #[]) (mvT hZ (hwk hw 264 rfl))) (mvT hZ (hwk hw 264 rfl)) (mvT hZ (hwk hw 263 rfl)) (by decide) (backOf (W := 0) (rm31n l Z a0 hw [] a1 h0 n0 O0 F2) hZ (hwk hw 265 rfl) (hwk hw 207 rfl) (by decide) (by decide)) q102a q102c (g := (mkF m 15 #[.val (.ref a1), .val (.int p1), .val .null] [(.ref a1)])) rfl (by rw [hml]; rfl) (Steps.refl _) (argsL := []) (rest := []) (lenOf pd_12 rfl) rfl (by show 2 * 0 + _ ≤ _; exact Nat.le_of_eq rfl) (hb hby d29_15) (fun _ _ => ⟨rfl, e101, (by decide : 0 + 0 ≤ _), (by decide : 0 + 0 ≤ _)⟩)
  dsimp only [Pt.U, Pt.locs, Pt.cells, Pt.slots] at X102 l102 y102 z102 st102 hQ102
  subst l102 y102 z102
  unfold Q_rm31n at hQ102
  obtain ⟨rfl, N102q, e102⟩ := hQ102
  have N102 := Fr.app N101 N102q
  obtain ⟨fs, hr, hrun, hended, hW, hsame⟩ := X102.leave (v := some (.int (1 : Int32))) (fun h => by rw [Bd.returns] at h; cases h)
  refine ⟨_, _, pre0 _ ?_, hrun, hended, _, _, rfl, ?_, ⟨_, rfl⟩, hW, hsame.mono (by decide) (by decide)⟩
  · show Steps p.tables e below (s₁.setTop (mkF m 0 #[.val (.ref a1), .val (.int p1), .val .null] [])) _
    refine XS.aloadN X0.here hx rfl (hb hby d29_0) rfl rfl ?_
    show Steps p.tables e below (s₁.setTop (mkF m 1 #[.val (.ref a1), .val (.int p1), .val .null] [(.ref a1)])) _
    refine st101.trans ?_
    show Steps p.tables e below (T101.setTop (mkF m 4 #[.val (.ref a1), .val (.int p1), .val .null] [(.int p1)])) _
    refine XS.iloadN X101.here hx rfl (hb hby d29_4) rfl ?_
    refine XS.icmpYes X101.here hx rfl (pc0 := 5) (pc' := 10) rfl (hb hby d29_5) rfl (teq (rfl : p1 = p1)).1 (by decide) (by decide) ?_
    show Steps p.tables e below (T101.setTop (mkF m 10 #[.val (.ref a1), .val (.int p1), .val .null] [])) _
    refine XS.aloadN X101.here hx rfl (hb hby d29_10) rfl rfl ?_
    refine XS.ifnonnullNo X101.here hx rfl (hb hby d29_11) rfl ?_
    show Steps p.tables e below (T101.setTop (mkF m 14 #[.val (.ref a1), .val (.int p1), .val .null] [])) _
    refine XS.aloadN X101.here hx rfl (hb hby d29_14) rfl rfl ?_
    show Steps p.tables e below (T101.setTop (mkF m 15 #[.val (.ref a1), .val (.int p1), .val .null] [(.ref a1)])) _
    refine st102.trans ?_
    show Steps p.tables e below (T102.setTop (mkF m 18 #[.val (.ref a1), .val (.int p1), .val .null] [.null])) _
    refine XS.ifnonnullNo X102.here hx rfl (hb hby d29_18) rfl ?_
    show Steps p.tables e below (T102.setTop (mkF m 21 #[.val (.ref a1), .val (.int p1), .val .null] [])) _
    refine XS.iconst X102.here hx rfl (hb hby d29_21) ?_
    refine XS.goto X102.here hx rfl (pc0 := 22) (pc' := 26) rfl (hb hby d29_22) (by decide) (by decide) ?_
    show Steps p.tables e below (T102.setTop (mkF m 26 #[.val (.ref a1), .val (.int p1), .val .null] [(.int (1 : Int32))])) _
    exact Jvm.RoadKit.retOut X102 hx Bd.returns rfl (Or.inl ⟨rfl, by simp, _, rfl⟩) (hb hby d29_26) hr
  · show Q_rm29n Z a1 p1 h0 n0 _ T102.heap _
    rw [e102]
    unfold Q_rm29n
    exact ⟨rfl, N102, rfl⟩
theorem ef_rm29r (m : MethodId) (x0 : Addr) (x1 : Int32) (x2 : Addr) : entryFrame m #[(.ref x0), (.int x1), (.ref x2)] 3 = mkF m 0 #[.val (.ref x0), .val (.int x1), .val (.ref x2)] [] := by first | (simp [entryFrame, mkF, argsToLocals, Value.category]; done) | rfl
def Q_rm29r (Z : State) (a1 : Addr) (p1 : Int32) (r1 : Addr) (h0 : Heap) (n0 : Nat) (v : Option Value) (h : Heap) (L : List Loc) : Prop := (v = some (.int (1 : Int32))) ∧ (Fr n0 L) ∧ (h = h0)
theorem d29_27 : decode method_2_code 27 = .ok (.aload_n 2, 1) := by decide +kernel
theorem d29_28 : decode method_2_code 28 = .ok (.aload_n 0, 1) := by decide +kernel
theorem d29_29 : decode method_2_code 29 = .ok (.invokevirtual 13, 3) := by decide +kernel
theorem d29_32 : decode method_2_code 32 = .ok (.invokevirtual 17, 3) := by decide +kernel
theorem d29_35 : decode method_2_code 35 = .ok (.ireturn, 1) := by decide +kernel
set_option maxRecDepth 65536 in
set_option maxHeartbeats 40000000 in
theorem rm29r (l : Launch) (Z : State) (a0 : Array Value) (hw : ∀ d ∈ tables_1, d.before a0 Z = true) (ws : List Jvm.Cond) (a1 : Addr) (p1 : Int32) (r1 : Addr) (h0 : Heap) (n0 : Nat) (O0 : Old Z n0 h0) (F0 : Exa Z h0 a1 "com/example/fixlore/fixlore/lang/GraphBuilder$End") (F1 : Fld Z h0 a1 "com/example/fixlore/fixlore/lang/GraphBuilder$End" "from" "I" (.int p1)) (F2 : Fld Z h0 a1 "com/example/fixlore/fixlore/lang/GraphBuilder$End" "branch" "Ljava/lang/String;" (.ref r1)) (ES : Exa Z h0 r1 "java/lang/String") :
    MetFree l (⟨"com/example/fixlore/fixlore/lang/GraphBuilderSuspendPinLaw", "endIs", "(Lcom/example/fixlore/fixlore/lang/GraphBuilder$End;ILjava/lang/String;)Z"⟩ : MethodName) (head1 (Jvm.Cond.code (⟨"com/example/fixlore/fixlore/lang/GraphBuilderSuspendPinLaw", "endIs", "(Lcom/example/fixlore/fixlore/lang/GraphBuilder$End;ILjava/lang/String;)Z"⟩ : MethodName) method_2_code 3 (some .boolean) :: ws) ({ frames := 1, cells := 0, slots := 0, locals := 14 } : Room)) (fun a U => a = #[(.ref a1), (.int p1), (.ref r1)] ∧ Z.Warmed39 U.vm ∧ U.heap = h0) (fun _ _ _ _ _ => True) (fun _ U o U' => ∃ v L, o = .returned v ∧ Q_rm29r Z a1 p1 r1 h0 n0 v U'.heap L ∧ FrameEnd U o U' L ({ frames := 1, cells := 0, slots := 0, locals := 14 } : Room).cells ({ frames := 1, cells := 0, slots := 0, locals := 14 } : Room).slots) := by
  refine MetFree.of_bodySF (plainFor_of_name pn_15) hisR ?_
  intro p e s m args below meth c s₁ Bd hml0 hP hK
  obtain ⟨rfl, hZ, hh⟩ := hP
  have hx := Bd.exec
  have hby := Bd.bytes
  have hml : c.maxLocals = 3 := hml0
  have hown : s.vm.findClass "com/example/fixlore/fixlore/lang/GraphBuilderSuspendPinLaw" = some m.cls := findClass_of_methodNamed Bd.named
  have hnm := (name_of_methodNamed Bd.named Bd.method).1
  have X0 : Stand p l e ({ frames := 1, cells := 0, slots := 0, locals := 14 } : Room) s m #[(.ref a1), (.int p1), (.ref r1)] below meth c s₁ [] 0 0 := Stand.of_body Bd
  have e0 : s₁.heap = h0 := by rw [← hh, Bd.state]; rfl
  have N0 := Fr.nil n0
  have Z0 : n0 ≤ h0.size := old_le O0
  have pre0 : ∀ t, Steps p.tables e below (s₁.setTop (mkF m 0 #[.val (.ref a1), .val (.int p1), .val (.ref r1)] [])) t → Steps p.tables e below (s₁.setTop (entryFrame m #[(.ref a1), (.int p1), (.ref r1)] 3)) t := fun t k => castTop (ef_rm29r m a1 p1 r1) k
  obtain ⟨cq101, kq101, q101a, q101b, q101c⟩ := isOf hZ e0 F0
  obtain ⟨_, _, ⟨T101, L101, k101, n101⟩, -, X101, ⟨Lc101, hQ101, l101, y101, z101⟩, st101⟩ := X0.virtualBack hx (y := (⟨"com/example/fixlore/fixlore/lang/GraphBuilder$End", "from", "()I"⟩ : MethodName)) (z := (⟨"com/example/fixlore/fixlore/lang/GraphBuilder$End", "from", "()I"⟩ : MethodName)) hown (mvT hZ (hwk hw 256 rfl)) (mvT hZ (hwk hw 257 rfl)) (notFace_of_selects (args := #[]) (mvT hZ (hwk hw 259 rfl))) (mvT hZ (hwk hw 259 rfl)) (mvT hZ (hwk hw 258 rfl)) (by decide) (backOf (W := 0) (rm30 l Z a0 hw [] a1 p1 h0 n0 O0 F1) hZ (hwk hw 260 rfl) (hwk hw 207 rfl) (by decide) (by decide)) q101a q101c (g := (mkF m 1 #[.val (.ref a1), .val (.int p1), .val (.ref r1)] [(.ref a1)])) rfl (by rw [hml]; rfl) (Steps.refl _) (argsL := []) (rest := []) (lenOf pd_8 rfl) rfl (by show 2 * 0 + _ ≤ _; exact Nat.le_of_eq rfl) (hb hby d29_1) (fun _ _ => ⟨rfl, e0, (by decide : 0 + 0 ≤ _), (by decide : 0 + 0 ≤ _)⟩)
  dsimp only [Pt.U, Pt.locs, Pt.cells, Pt.slots] at X101 l101 y101 z101 st101 hQ101
  subst l101 y101 z101
  unfold Q_rm30 at hQ101
  obtain ⟨rfl, N101q, e101⟩ := hQ101
  have N101 := Fr.app N0 N101q
  obtain ⟨cq102, kq102, q102a, q102b, q102c⟩ := isOf hZ e101 F0
  obtain ⟨_, _, ⟨T102, L102, k102, n102⟩, -, X102, ⟨Lc102, hQ102, l102, y102, z102⟩, st102⟩ := X101.virtualBack hx (y := (⟨"com/example/fixlore/fixlore/lang/GraphBuilder$End", "branch", "()Ljava/lang/String;"⟩ : MethodName)) (z := (⟨"com/example/fixlore/fixlore/lang/GraphBuilder$End", "branch", "()Ljava/lang/String;"⟩ : MethodName)) hown (mvT hZ (hwk hw 261 rfl)) (mvT hZ (hwk hw 262 rfl)) (notFace_of_selects (args := #[]) (mvT hZ (hwk hw 264 rfl))) (mvT hZ (hwk hw 264 rfl)) (mvT hZ (hwk hw 263 rfl)) (by decide) (backOf (W := 1) (rm31r l Z a0 hw [] a1 r1 h0 n0 O0 F2) hZ (hwk hw 265 rfl) (hwk hw 207 rfl) (by decide) (by decide)) q102a q102c (g := (mkF m 29 #[.val (.ref a1), .val (.int p1), .val (.ref r1)] [(.ref a1), (.ref r1)])) rfl (by rw [hml]; rfl) (Steps.refl _) (argsL := []) (rest := [(.ref r1)]) (lenOf pd_12 rfl) rfl (by show 2 * 0 + _ ≤ _; exact Nat.le_of_eq rfl) (hb hby d29_29) (fun _ _ => ⟨rfl, e101, (by decide : 0 + 0 ≤ _), (by decide : 0 + 0 ≤ _)⟩)
  dsimp only [Pt.U, Pt.locs, Pt.cells, Pt.slots] at X102 l102 y102 z102 st102 hQ102
  subst l102 y102 z102
  unfold Q_rm31r at hQ102
  obtain ⟨rfl, N102q, e102⟩ := hQ102
  have N102 := Fr.app N101 N102q
  obtain ⟨cq103, kq103, q103a, q103b, q103c⟩ := isOf hZ e102 ES
  obtain ⟨_, _, ⟨T103, L103, k103, n103⟩, -, X103, ⟨Lc103, hQ103, l103, y103, z103⟩, st103⟩ := X102.virtualBack hx (y := (⟨"java/lang/String", "equals", "(Ljava/lang/Object;)Z"⟩ : MethodName)) (z := (⟨"java/lang/String", "equals", "(Ljava/lang/Object;)Z"⟩ : MethodName)) hown (mvT hZ (hwk hw 285 rfl)) (mvT hZ (hwk hw 286 rfl)) (notFace_of_selects (args := #[]) (mvT hZ (hwk hw 288 rfl))) (mvT hZ (hwk hw 288 rfl)) (mvT hZ (hwk hw 287 rfl)) (by decide) (backOf (W := 0) (rm36 l Z a0 hw [] r1 h0 n0 O0 ) hZ (hwk hw 289 rfl) (hwk hw 102 rfl) (by decide) (by decide)) q103a q103c (g := (mkF m 32 #[.val (.ref a1), .val (.int p1), .val (.ref r1)] [(.ref r1), (.ref r1)])) rfl (by rw [hml]; rfl) (Steps.refl _) (argsL := [(.ref r1)]) (rest := []) (lenOf pd_7 rfl) rfl (by show 2 * 0 + _ ≤ _; exact Nat.le_of_eq rfl) (hb hby d29_32) (fun _ _ => ⟨rfl, e102, (by decide : 0 + 0 ≤ _), (by decide : 0 + 0 ≤ _)⟩)
  dsimp only [Pt.U, Pt.locs, Pt.cells, Pt.slots] at X103 l103 y103 z103 st103 hQ103
  subst l103 y103 z103
  unfold Q_rm36 at hQ103
  obtain ⟨rfl, N103q, e103⟩ := hQ103
  have N103 := Fr.app N102 N103q
  obtain ⟨fs, hr, hrun, hended, hW, hsame⟩ := X103.leave (v := some (.int (1 : Int32))) (fun h => by rw [Bd.returns] at h; cases h)
  refine ⟨_, _, pre0 _ ?_, hrun, hended, _, _, rfl, ?_, ⟨_, rfl⟩, hW, hsame.mono (by decide) (by decide)⟩
  · show Steps p.tables e below (s₁.setTop (mkF m 0 #[.val (.ref a1), .val (.int p1), .val (.ref r1)] [])) _
    refine XS.aloadN X0.here hx rfl (hb hby d29_0) rfl rfl ?_
    show Steps p.tables e below (s₁.setTop (mkF m 1 #[.val (.ref a1), .val (.int p1), .val (.ref r1)] [(.ref a1)])) _
    refine st101.trans ?_
    show Steps p.tables e below (T101.setTop (mkF m 4 #[.val (.ref a1), .val (.int p1), .val (.ref r1)] [(.int p1)])) _
    refine XS.iloadN X101.here hx rfl (hb hby d29_4) rfl ?_
    refine XS.icmpYes X101.here hx rfl (pc0 := 5) (pc' := 10) rfl (hb hby d29_5) rfl (teq (rfl : p1 = p1)).1 (by decide) (by decide) ?_
    show Steps p.tables e below (T101.setTop (mkF m 10 #[.val (.ref a1), .val (.int p1), .val (.ref r1)] [])) _
    refine XS.aloadN X101.here hx rfl (hb hby d29_10) rfl rfl ?_
    refine XS.ifnonnullYes X101.here hx rfl (pc0 := 11) (pc' := 27) rfl (hb hby d29_11) rfl (by decide) (by decide) ?_
    show Steps p.tables e below (T101.setTop (mkF m 27 #[.val (.ref a1), .val (.int p1), .val (.ref r1)] [])) _
    refine XS.aloadN X101.here hx rfl (hb hby d29_27) rfl rfl ?_
    refine XS.aloadN X101.here hx rfl (hb hby d29_28) rfl rfl ?_
    show Steps p.tables e below (T101.setTop (mkF m 29 #[.val (.ref a1), .val (.int p1), .val (.ref r1)] [(.ref a1), (.ref r1)])) _
    refine st102.trans ?_
    show Steps p.tables e below (T102.setTop (mkF m 32 #[.val (.ref a1), .val (.int p1), .val (.ref r1)] [(.ref r1), (.ref r1)])) _
    refine st103.trans ?_
    show Steps p.tables e below (T103.setTop (mkF m 35 #[.val (.ref a1), .val (.int p1), .val (.ref r1)] [(.int (1 : Int32))])) _
    exact Jvm.RoadKit.retOut X103 hx Bd.returns rfl (Or.inl ⟨rfl, by simp, _, rfl⟩) (hb hby d29_35) hr
  · show Q_rm29r Z a1 p1 r1 h0 n0 _ T103.heap _
    rw [e103]
    unfold Q_rm29r
    exact ⟨rfl, N103, rfl⟩
theorem ef_rm33 (m : MethodId) (x0 : Int32) : entryFrame m #[(.int x0)] 1 = mkF m 0 #[.val (.int x0)] [] := by first | (simp [entryFrame, mkF, argsToLocals, Value.category]; done) | rfl
def VCan (p : Int32) : Int32 := if (255 : Int32) < p then 0 else 1
def Q_rm33 (Z : State) (p1 : Int32) (h0 : Heap) (n0 : Nat) (v : Option Value) (h : Heap) (L : List Loc) : Prop := (v = some (.int (VCan p1))) ∧ (Fr n0 L) ∧ (h = h0)
theorem pn_16 : plainName "java/lang/StringLatin1" = true := by first | (simp [plainName, overriddenIn]; done) | decide +kernel
theorem d33_0 : decode jdk_43_method_3_code 0 = .ok (.iload_n 0, 1) := by decide +kernel
theorem d33_1 : decode jdk_43_method_3_code 1 = .ok (.sipush 255, 3) := by decide +kernel
theorem d33_4 : decode jdk_43_method_3_code 4 = .ok (.if_icmp .gt 7, 3) := by decide +kernel
theorem d33_11 : decode jdk_43_method_3_code 11 = .ok (.iconst 0, 1) := by decide +kernel
theorem d33_12 : decode jdk_43_method_3_code 12 = .ok (.ireturn, 1) := by decide +kernel
theorem d33_7 : decode jdk_43_method_3_code 7 = .ok (.iconst 1, 1) := by decide +kernel
theorem d33_8 : decode jdk_43_method_3_code 8 = .ok (.goto 4, 3) := by decide +kernel
set_option maxRecDepth 65536 in
set_option maxHeartbeats 40000000 in
theorem rm33 (l : Launch) (Z : State) (a0 : Array Value) (hw : ∀ d ∈ tables_1, d.before a0 Z = true) (ws : List Jvm.Cond) (p1 : Int32) (h0 : Heap) (n0 : Nat) (O0 : Old Z n0 h0)  :
    MetFree l (⟨"java/lang/StringLatin1", "canEncode", "(C)Z"⟩ : MethodName) (head1 (Jvm.Cond.code (⟨"java/lang/StringLatin1", "canEncode", "(C)Z"⟩ : MethodName) jdk_43_method_3_code 1 (some .boolean) :: ws) ({ frames := 0, cells := 0, slots := 0, locals := 0 } : Room)) (fun a U => a = #[(.int p1)] ∧ Z.Warmed39 U.vm ∧ U.heap = h0) (fun _ _ _ _ _ => True) (fun _ U o U' => ∃ v L, o = .returned v ∧ Q_rm33 Z p1 h0 n0 v U'.heap L ∧ FrameEnd U o U' L ({ frames := 0, cells := 0, slots := 0, locals := 0 } : Room).cells ({ frames := 0, cells := 0, slots := 0, locals := 0 } : Room).slots) := by
  refine MetFree.of_bodySF (plainFor_of_name pn_16) hisR ?_
  intro p e s m args below meth c s₁ Bd hml0 hP hK
  obtain ⟨rfl, hZ, hh⟩ := hP
  have hx := Bd.exec
  have hby := Bd.bytes
  have hml : c.maxLocals = 1 := hml0
  have hown : s.vm.findClass "java/lang/StringLatin1" = some m.cls := findClass_of_methodNamed Bd.named
  have hnm := (name_of_methodNamed Bd.named Bd.method).1
  have X0 : Stand p l e ({ frames := 0, cells := 0, slots := 0, locals := 0 } : Room) s m #[(.int p1)] below meth c s₁ [] 0 0 := Stand.of_body Bd
  have e0 : s₁.heap = h0 := by rw [← hh, Bd.state]; rfl
  have N0 := Fr.nil n0
  have Z0 : n0 ≤ h0.size := old_le O0
  have pre0 : ∀ t, Steps p.tables e below (s₁.setTop (mkF m 0 #[.val (.int p1)] [])) t → Steps p.tables e below (s₁.setTop (entryFrame m #[(.int p1)] 1)) t := fun t k => castTop (ef_rm33 m p1) k
  have S102 : ∀ t, Steps p.tables e below (s₁.setTop (mkF m 4 #[.val (.int p1)] [(.int (255 : Int32)), (.int p1)])) t → Steps p.tables e below (s₁.setTop (entryFrame m #[(.int p1)] 1)) t := fun t k => by
    refine pre0 t ?_
    show Steps p.tables e below (s₁.setTop (mkF m 0 #[.val (.int p1)] [])) _
    refine XS.iloadN X0.here hx rfl (hb hby d33_0) rfl ?_
    refine XS.sipush X0.here hx rfl (hb hby d33_1) ?_
    exact k
  by_cases hc101 : (255 : Int32) < p1
  · obtain ⟨fs, hr, hrun, hended, hW, hsame⟩ := X0.leave (v := some (.int (0 : Int32))) (fun h => by rw [Bd.returns] at h; cases h)
    refine ⟨_, _, S102 _ ?_, hrun, hended, _, _, rfl, ?_, ⟨_, rfl⟩, hW, hsame.mono (by decide) (by decide)⟩
    · show Steps p.tables e below (s₁.setTop (mkF m 4 #[.val (.int p1)] [(.int (255 : Int32)), (.int p1)])) _
      refine XS.icmpYes X0.here hx rfl (pc0 := 4) (pc' := 11) rfl (hb hby d33_4) rfl (tlt hc101).2.2.1 (by decide) (by decide) ?_
      show Steps p.tables e below (s₁.setTop (mkF m 11 #[.val (.int p1)] [])) _
      refine XS.iconst X0.here hx rfl (hb hby d33_11) ?_
      show Steps p.tables e below (s₁.setTop (mkF m 12 #[.val (.int p1)] [(.int (0 : Int32))])) _
      exact Jvm.RoadKit.retOut X0 hx Bd.returns rfl (Or.inl ⟨rfl, by simp, _, rfl⟩) (hb hby d33_12) hr
    · show Q_rm33 Z p1 h0 n0 _ s₁.heap _
      rw [e0]
      unfold Q_rm33
      exact ⟨by simp [VCan, hc101], N0, rfl⟩
  · obtain ⟨fs, hr, hrun, hended, hW, hsame⟩ := X0.leave (v := some (.int (1 : Int32))) (fun h => by rw [Bd.returns] at h; cases h)
    refine ⟨_, _, S102 _ ?_, hrun, hended, _, _, rfl, ?_, ⟨_, rfl⟩, hW, hsame.mono (by decide) (by decide)⟩
    · show Steps p.tables e below (s₁.setTop (mkF m 4 #[.val (.int p1)] [(.int (255 : Int32)), (.int p1)])) _
      refine XS.icmpNo X0.here hx rfl (hb hby d33_4) rfl (flt hc101).2.2.1 ?_
      show Steps p.tables e below (s₁.setTop (mkF m 7 #[.val (.int p1)] [])) _
      refine XS.iconst X0.here hx rfl (hb hby d33_7) ?_
      refine XS.goto X0.here hx rfl (pc0 := 8) (pc' := 12) rfl (hb hby d33_8) (by decide) (by decide) ?_
      show Steps p.tables e below (s₁.setTop (mkF m 12 #[.val (.int p1)] [(.int (1 : Int32))])) _
      exact Jvm.RoadKit.retOut X0 hx Bd.returns rfl (Or.inl ⟨rfl, by simp, _, rfl⟩) (hb hby d33_12) hr
    · show Q_rm33 Z p1 h0 n0 _ s₁.heap _
      rw [e0]
      unfold Q_rm33
      exact ⟨by simp [VCan, hc101], N0, rfl⟩
theorem ef_rm34 (m : MethodId) (x0 : Int32) : entryFrame m #[(.int x0)] 1 = mkF m 0 #[.val (.int x0)] [] := by first | (simp [entryFrame, mkF, argsToLocals, Value.category]; done) | rfl
def Q_rm34 (Z : State) (p1 : Int32) (h0 : Heap) (n0 : Nat) (v : Option Value) (h : Heap) (L : List Loc) : Prop := ∃ t : Addr, ∃ k : ClassId, (v = some (.ref t)) ∧ (Fr n0 L) ∧ (Keep h0 h []) ∧ (h0.size ≤ t) ∧ (Arv Z h t k .byte (1 : Int32) [(.int (nar .byte (p1.toInt8.toInt32)))] (.int (0 : Int32)))
theorem d34_0 : decode jdk_43_method_46_code 0 = .ok (.iconst 1, 1) := by decide +kernel
theorem d34_1 : decode jdk_43_method_46_code 1 = .ok (.newarray .byte, 2) := by decide +kernel
theorem d34_3 : decode jdk_43_method_46_code 3 = .ok (.dup, 1) := by decide +kernel
theorem d34_4 : decode jdk_43_method_46_code 4 = .ok (.iconst 0, 1) := by decide +kernel
theorem d34_5 : decode jdk_43_method_46_code 5 = .ok (.iload_n 0, 1) := by decide +kernel
theorem d34_6 : decode jdk_43_method_46_code 6 = .ok (.i2b, 1) := by decide +kernel
theorem d34_7 : decode jdk_43_method_46_code 7 = .ok (.bastore, 1) := by decide +kernel
theorem d34_8 : decode jdk_43_method_46_code 8 = .ok (.areturn, 1) := by decide +kernel
set_option maxRecDepth 65536 in
set_option maxHeartbeats 40000000 in
theorem rm34 (l : Launch) (Z : State) (a0 : Array Value) (hw : ∀ d ∈ tables_1, d.before a0 Z = true) (ws : List Jvm.Cond) (p1 : Int32) (h0 : Heap) (n0 : Nat) (O0 : Old Z n0 h0)  :
    MetFree l (⟨"java/lang/StringLatin1", "toBytes", "(C)[B"⟩ : MethodName) (head1 (Jvm.Cond.code (⟨"java/lang/StringLatin1", "toBytes", "(C)[B"⟩ : MethodName) jdk_43_method_46_code 1 (some (.array .byte)) :: ws) ({ frames := 0, cells := 1, slots := 1, locals := 0 } : Room)) (fun a U => a = #[(.int p1)] ∧ Z.Warmed39 U.vm ∧ U.heap = h0) (fun _ _ _ _ _ => True) (fun _ U o U' => ∃ v L, o = .returned v ∧ Q_rm34 Z p1 h0 n0 v U'.heap L ∧ FrameEnd U o U' L ({ frames := 0, cells := 1, slots := 1, locals := 0 } : Room).cells ({ frames := 0, cells := 1, slots := 1, locals := 0 } : Room).slots) := by
  refine MetFree.of_bodySF (plainFor_of_name pn_16) hisR ?_
  intro p e s m args below meth c s₁ Bd hml0 hP hK
  obtain ⟨rfl, hZ, hh⟩ := hP
  have hx := Bd.exec
  have hby := Bd.bytes
  have hml : c.maxLocals = 1 := hml0
  have hown : s.vm.findClass "java/lang/StringLatin1" = some m.cls := findClass_of_methodNamed Bd.named
  have hnm := (name_of_methodNamed Bd.named Bd.method).1
  have X0 : Stand p l e ({ frames := 0, cells := 1, slots := 1, locals := 0 } : Room) s m #[(.int p1)] below meth c s₁ [] 0 0 := Stand.of_body Bd
  have e0 : s₁.heap = h0 := by rw [← hh, Bd.state]; rfl
  have N0 := Fr.nil n0
  have Z0 : n0 ≤ h0.size := old_le O0
  have pre0 : ∀ t, Steps p.tables e below (s₁.setTop (mkF m 0 #[.val (.int p1)] [])) t → Steps p.tables e below (s₁.setTop (entryFrame m #[(.int p1)] 1)) t := fun t k => castTop (ef_rm34 m p1) k
  obtain ⟨T101, h101, k101, X101, e101, E101, A101, st101⟩ := newP X0 hx hZ (hwk hw 104 rfl) e0 (g := (mkF m 1 #[.val (.int p1)] [(.int (1 : Int32))])) rfl (hb hby d34_1) rfl (by decide) (cap := 1) (by decide) (by decide) (by decide) (by decide)
  obtain ⟨b101, g101⟩ : ∃ z, z = h0.size := ⟨_, rfl⟩
  rw [← g101] at A101 st101
  have g_b101 : n0 ≤ b101 := Nat.le_trans (old_le O0) (Nat.le_of_eq g101.symm)
  have V101 : Arv Z h101 b101 k101 .byte (1 : Int32) [(.int (0 : Int32))] (.int (0 : Int32)) := (Arv.new A101 (by decide)).pad (pad_rep [] (.int (0 : Int32)) 1)
  obtain ⟨clq102, Arq102, kqq102, Szq102, Nnq102, Hsq102, Gsq102⟩ := id V101
  have hinq102 : ¬ ((0 : Int32) < 0 ∨ clq102.slots.size ≤ ((0 : Int32)).toNatClampNeg) := inb_of Szq102 ⟨by decide, by decide⟩
  obtain ⟨T103, h103, X103, e103, W103, st103⟩ := stB X101 hx hZ e101 Arq102 (j := (0 : Int32)) hinq102 (g := (mkF m 7 #[.val (.int p1)] [(.int (p1.toInt8.toInt32)), (.int (0 : Int32)), (.ref b101), (.ref b101)])) rfl rfl (hb hby d34_7)
  have V103 : Arv Z h103 b101 k101 .byte (1 : Int32) [(.int (nar .byte (p1.toInt8.toInt32)))] (.int (0 : Int32)) := Arv.set Arq102 kqq102 Szq102 Nnq102 Hsq102 Gsq102 (fits_nar_byte _) W103 0 rfl (Nat.le_of_ble_eq_true rfl)
  have N103 := Fr.snoc X103 N0 g_b101
  have K104 : Keep h0 h101 [] := Keep.ext (Keep.refl h0 []) E101
  have K105 : Keep h0 h103 [] := Keep.wr K104 W103 (Or.inr (Nat.le_trans (Nat.le_refl _) (Nat.le_of_eq g101.symm)))
  obtain ⟨fs, hr, hrun, hended, hW, hsame⟩ := X103.leave (v := some (.ref b101)) (fun h => by rw [Bd.returns] at h; cases h)
  refine ⟨_, _, pre0 _ ?_, hrun, hended, _, _, rfl, ?_, ⟨_, rfl⟩, hW, hsame.mono (by decide) (by decide)⟩
  · show Steps p.tables e below (s₁.setTop (mkF m 0 #[.val (.int p1)] [])) _
    refine XS.iconst X0.here hx rfl (hb hby d34_0) ?_
    show Steps p.tables e below (s₁.setTop (mkF m 1 #[.val (.int p1)] [(.int (1 : Int32))])) _
    refine st101 _ ?_
    show Steps p.tables e below (T101.setTop (mkF m 3 #[.val (.int p1)] [(.ref b101)])) _
    refine XS.dup X101.here hx rfl (hb hby d34_3) rfl rfl ?_
    show Steps p.tables e below (T101.setTop (mkF m 4 #[.val (.int p1)] [(.ref b101), (.ref b101)])) _
    refine XS.iconst X101.here hx rfl (hb hby d34_4) ?_
    refine XS.iloadN X101.here hx rfl (hb hby d34_5) rfl ?_
    refine XS.i2b X101.here hx rfl (hb hby d34_6) rfl ?_
    show Steps p.tables e below (T101.setTop (mkF m 7 #[.val (.int p1)] [(.int (p1.toInt8.toInt32)), (.int (0 : Int32)), (.ref b101), (.ref b101)])) _
    refine st103 _ ?_
    show Steps p.tables e below (T103.setTop (mkF m 8 #[.val (.int p1)] [(.ref b101)])) _
    exact Jvm.RoadKit.retOut X103 hx Bd.returns rfl (Or.inr (Or.inr (Or.inr (Or.inr ⟨rfl, rfl, rfl⟩)))) (hb hby d34_8) hr
  · show Q_rm34 Z p1 h0 n0 _ T103.heap _
    rw [e103]
    unfold Q_rm34
    exact ⟨b101, k101, rfl, N103, K105, (Nat.le_trans (Nat.le_refl _) (Nat.le_of_eq g101.symm)), V103⟩
theorem ef_rm35 (m : MethodId) (x0 : Addr) (x1 : Addr) (x2 : Int32) : entryFrame m #[(.ref x0), (.ref x1), (.int x2)] 3 = mkF m 0 #[.val (.ref x0), .val (.ref x1), .val (.int x2)] [] := by first | (simp [entryFrame, mkF, argsToLocals, Value.category]; done) | rfl
def Q_rm35 (Z : State) (a1 : Addr) (t1 : Addr) (h0 : Heap) (n0 : Nat) (v : Option Value) (h : Heap) (L : List Loc) : Prop := (v = none) ∧ (Fr n0 L) ∧ (Keep h0 h [a1]) ∧ (Exa Z h a1 "java/lang/String") ∧ (Fld Z h a1 "java/lang/String" "value" "[B" (.ref t1)) ∧ (Fld Z h a1 "java/lang/String" "coder" "B" (.int (0 : Int32)))
theorem d35_0 : decode jdk_42_method_151_code 0 = .ok (.aload_n 0, 1) := by decide +kernel
theorem d35_1 : decode jdk_42_method_151_code 1 = .ok (.invokespecial 1, 3) := by decide +kernel
theorem d35_4 : decode jdk_42_method_151_code 4 = .ok (.aload_n 0, 1) := by decide +kernel
theorem d35_5 : decode jdk_42_method_151_code 5 = .ok (.aload_n 1, 1) := by decide +kernel
theorem d35_6 : decode jdk_42_method_151_code 6 = .ok (.putfield 9, 3) := by decide +kernel
theorem d35_9 : decode jdk_42_method_151_code 9 = .ok (.aload_n 0, 1) := by decide +kernel
theorem d35_10 : decode jdk_42_method_151_code 10 = .ok (.iload_n 2, 1) := by decide +kernel
theorem d35_11 : decode jdk_42_method_151_code 11 = .ok (.putfield 15, 3) := by decide +kernel
theorem d35_14 : decode jdk_42_method_151_code 14 = .ok (.return_, 1) := by decide +kernel
set_option maxRecDepth 65536 in
set_option maxHeartbeats 40000000 in
theorem rm35 (l : Launch) (Z : State) (a0 : Array Value) (hw : ∀ d ∈ tables_1, d.before a0 Z = true) (ws : List Jvm.Cond) (a1 : Addr) (t1 : Addr) (h0 : Heap) (n0 : Nat) (O0 : Old Z n0 h0) (E1 : Exa Z h0 a1 "java/lang/String") (g1 : n0 ≤ a1) (D0 : Fld Z h0 a1 "java/lang/String" "value" "[B" .null) (D1 : Fld Z h0 a1 "java/lang/String" "coder" "B" (.int (0 : Int32))) :
    MetFree l (⟨"java/lang/String", "<init>", "([BB)V"⟩ : MethodName) (head1 (Jvm.Cond.code (⟨"java/lang/String", "<init>", "([BB)V"⟩ : MethodName) jdk_42_method_151_code 3 none :: ws) ({ frames := 1, cells := 0, slots := 0, locals := 12 } : Room)) (fun a U => a = #[(.ref a1), (.ref t1), (.int (0 : Int32))] ∧ Z.Warmed39 U.vm ∧ U.heap = h0) (fun _ _ _ _ _ => True) (fun _ U o U' => ∃ v L, o = .returned v ∧ Q_rm35 Z a1 t1 h0 n0 v U'.heap L ∧ FrameEnd U o U' L ({ frames := 1, cells := 0, slots := 0, locals := 12 } : Room).cells ({ frames := 1, cells := 0, slots := 0, locals := 12 } : Room).slots) := by
  refine MetFree.of_bodySF (plainFor_of_name pn_14) hisR ?_
  intro p e s m args below meth c s₁ Bd hml0 hP hK
  obtain ⟨rfl, hZ, hh⟩ := hP
  have hx := Bd.exec
  have hby := Bd.bytes
  have hml : c.maxLocals = 3 := hml0
  have hown : s.vm.findClass "java/lang/String" = some m.cls := findClass_of_methodNamed Bd.named
  have hnm := (name_of_methodNamed Bd.named Bd.method).1
  have X0 : Stand p l e ({ frames := 1, cells := 0, slots := 0, locals := 12 } : Room) s m #[(.ref a1), (.ref t1), (.int (0 : Int32))] below meth c s₁ [] 0 0 := Stand.of_body Bd
  have e0 : s₁.heap = h0 := by rw [← hh, Bd.state]; rfl
  have N0 := Fr.nil n0
  have Z0 : n0 ≤ h0.size := old_le O0
  have pre0 : ∀ t, Steps p.tables e below (s₁.setTop (mkF m 0 #[.val (.ref a1), .val (.ref t1), .val (.int (0 : Int32))] [])) t → Steps p.tables e below (s₁.setTop (entryFrame m #[(.ref a1), (.ref t1), (.int (0 : Int32))] 3)) t := fun t k => castTop (ef_rm35 m a1 t1 (0 : Int32)) k
  obtain ⟨T101, X101, e101, st101⟩ := initO X0 hx hZ hown (hwk hw 282 rfl) (hwk hw 7 rfl) (hwk hw 8 rfl) e0 (g := (mkF m 1 #[.val (.ref a1), .val (.ref t1), .val (.int (0 : Int32))] [(.ref a1)])) rfl (by rw [hml]; rfl) rfl (hb hby d35_1) (by decide) (W := 0) (by show 2 * 0 + _ ≤ _; exact Nat.le_of_eq rfl) (by decide)
  obtain ⟨T102, h102, X102, e102, W102, st102⟩ := putF X101 hx hZ hown (host := "") (Or.inl (hwk hw 283 rfl)) Via.refl e101 D0 E1 (Or.inr ⟨(hwk hw 105 rfl), rfl, hnm⟩) (hwk hw 103 rfl) (ty := (.array .byte)) (by decide) rfl rfl (g := (mkF m 6 #[.val (.ref a1), .val (.ref t1), .val (.int (0 : Int32))] [(.ref t1), (.ref a1)])) rfl rfl (hb hby d35_6)
  have F102 : Fld Z h102 a1 "java/lang/String" "value" "[B" (.ref t1) := Fld.same W102 D0
  have N102 := Fr.snoc X102 N0 g1
  have c103 : Exa Z h102 a1 "java/lang/String" := (Exa.wr W102 E1)
  have c104 : Fld Z h102 a1 "java/lang/String" "coder" "B" (.int (0 : Int32)) := (Fld.other W102 D1 (Or.inr (slot_ne (Or.inr (hwk hw 106 rfl)) (Or.inr (hwk hw 105 rfl)) (by decide) (t := .byte) (t' := (.array .byte)) (by decide) (by decide))))
  obtain ⟨T105, h105, X105, e105, W105, st105⟩ := putF X102 hx hZ hown (host := "") (Or.inl (hwk hw 284 rfl)) Via.refl e102 c104 c103 (Or.inr ⟨(hwk hw 106 rfl), rfl, hnm⟩) (hwk hw 103 rfl) (ty := .byte) (by decide) rfl rfl (g := (mkF m 11 #[.val (.ref a1), .val (.ref t1), .val (.int (0 : Int32))] [(.int (0 : Int32)), (.ref a1)])) rfl rfl (hb hby d35_11)
  have F105 : Fld Z h105 a1 "java/lang/String" "coder" "B" (.int (0 : Int32)) := Fld.same W105 c104
  have N105 := Fr.snoc X105 N102 g1
  have K106 : Keep h0 h102 [a1] := Keep.wr (Keep.refl h0 [a1]) W102 (Or.inl (List.mem_of_getElem? (i := 0) rfl))
  have K107 : Keep h0 h105 [a1] := Keep.wr K106 W105 (Or.inl (List.mem_of_getElem? (i := 0) rfl))
  have c108 : Exa Z h105 a1 "java/lang/String" := (Exa.wr W105 c103)
  have c109 : Fld Z h105 a1 "java/lang/String" "value" "[B" (.ref t1) := (Fld.other W105 F102 (Or.inr (slot_ne (Or.inr (hwk hw 105 rfl)) (Or.inr (hwk hw 106 rfl)) (by decide) (t := (.array .byte)) (t' := .byte) (by decide) (by decide))))
  obtain ⟨fs, hr, hrun, hended, hW, hsame⟩ := X105.leave (v := none) (fun _ => rfl)
  refine ⟨_, _, pre0 _ ?_, hrun, hended, _, _, rfl, ?_, ⟨_, rfl⟩, hW, hsame.mono (by decide) (by decide)⟩
  · show Steps p.tables e below (s₁.setTop (mkF m 0 #[.val (.ref a1), .val (.ref t1), .val (.int (0 : Int32))] [])) _
    refine XS.aloadN X0.here hx rfl (hb hby d35_0) rfl rfl ?_
    show Steps p.tables e below (s₁.setTop (mkF m 1 #[.val (.ref a1), .val (.ref t1), .val (.int (0 : Int32))] [(.ref a1)])) _
    refine st101 _ ?_
    show Steps p.tables e below (T101.setTop (mkF m 4 #[.val (.ref a1), .val (.ref t1), .val (.int (0 : Int32))] [])) _
    refine XS.aloadN X101.here hx rfl (hb hby d35_4) rfl rfl ?_
    refine XS.aloadN X101.here hx rfl (hb hby d35_5) rfl rfl ?_
    show Steps p.tables e below (T101.setTop (mkF m 6 #[.val (.ref a1), .val (.ref t1), .val (.int (0 : Int32))] [(.ref t1), (.ref a1)])) _
    refine st102 _ ?_
    show Steps p.tables e below (T102.setTop (mkF m 9 #[.val (.ref a1), .val (.ref t1), .val (.int (0 : Int32))] [])) _
    refine XS.aloadN X102.here hx rfl (hb hby d35_9) rfl rfl ?_
    refine XS.iloadN X102.here hx rfl (hb hby d35_10) rfl ?_
    show Steps p.tables e below (T102.setTop (mkF m 11 #[.val (.ref a1), .val (.ref t1), .val (.int (0 : Int32))] [(.int (0 : Int32)), (.ref a1)])) _
    refine st105 _ ?_
    show Steps p.tables e below (T105.setTop (mkF m 14 #[.val (.ref a1), .val (.ref t1), .val (.int (0 : Int32))] [])) _
    exact X105.returnOut hx Bd.returns (hb hby d35_14) hr
  · show Q_rm35 Z a1 t1 h0 n0 _ T105.heap _
    rw [e105]
    unfold Q_rm35
    exact ⟨rfl, N105, K107, c108, c109, F105⟩
theorem ef_rm32 (m : MethodId) (x0 : Int32) : entryFrame m #[(.int x0)] 1 = mkF m 0 #[.val (.int x0)] [] := by first | (simp [entryFrame, mkF, argsToLocals, Value.category]; done) | rfl
def Q_rm32 (Z : State) (p1 : Int32) (zc : Int32) (h0 : Heap) (n0 : Nat) (v : Option Value) (h : Heap) (L : List Loc) : Prop := ∃ b : Addr, ∃ t : Addr, ∃ k : ClassId, (v = some (.ref b)) ∧ (Fr n0 L) ∧ (Keep h0 h []) ∧ (h0.size ≤ b) ∧ (h0.size ≤ t) ∧ (Exa Z h b "java/lang/String") ∧ (Fld Z h b "java/lang/String" "value" "[B" (.ref t)) ∧ (Fld Z h b "java/lang/String" "coder" "B" (.int (0 : Int32))) ∧ (Arv Z h t k .byte (1 : Int32) [(.int (nar .byte (p1.toInt8.toInt32)))] (.int (0 : Int32))) ∧ (¬ t = b)
theorem d32_0 : decode jdk_42_method_139_code 0 = .ok (.getstatic 38, 3) := by decide +kernel
theorem d32_3 : decode jdk_42_method_139_code 3 = .ok (.ifCond .eq 23, 3) := by decide +kernel
theorem d32_6 : decode jdk_42_method_139_code 6 = .ok (.iload_n 0, 1) := by decide +kernel
theorem d32_7 : decode jdk_42_method_139_code 7 = .ok (.invokestatic 1015, 3) := by decide +kernel
theorem pd_13 : parseMethodDescriptor "(C)Z" = some ⟨[.char], some .boolean⟩ := by decide +kernel
theorem d32_10 : decode jdk_42_method_139_code 10 = .ok (.ifCond .eq 16, 3) := by decide +kernel
theorem d32_13 : decode jdk_42_method_139_code 13 = .ok (.new 10, 3) := by decide +kernel
theorem d32_16 : decode jdk_42_method_139_code 16 = .ok (.dup, 1) := by decide +kernel
theorem d32_17 : decode jdk_42_method_139_code 17 = .ok (.iload_n 0, 1) := by decide +kernel
theorem d32_18 : decode jdk_42_method_139_code 18 = .ok (.invokestatic 1018, 3) := by decide +kernel
theorem pd_14 : parseMethodDescriptor "(C)[B" = some ⟨[.char], some (.array .byte)⟩ := by decide +kernel
theorem d32_21 : decode jdk_42_method_139_code 21 = .ok (.iconst 0, 1) := by decide +kernel
theorem d32_22 : decode jdk_42_method_139_code 22 = .ok (.invokespecial 209, 3) := by decide +kernel
theorem pd_15 : parseMethodDescriptor "([BB)V" = some ⟨[(.array .byte), .byte], none⟩ := by decide +kernel
theorem d32_25 : decode jdk_42_method_139_code 25 = .ok (.areturn, 1) := by decide +kernel
set_option maxRecDepth 65536 in
set_option maxHeartbeats 40000000 in
theorem rm32 (l : Launch) (Z : State) (a0 : Array Value) (hw : ∀ d ∈ tables_1, d.before a0 Z = true) (ws : List Jvm.Cond) (p1 : Int32) (zc : Int32) (h0 : Heap) (n0 : Nat) (O0 : Old Z n0 h0) (SZ : Sta Z Z.heap "java/lang/String" "COMPACT_STRINGS" "Z" (.int zc)) (PZ : ¬ (zc = (0 : Int32))) (hp1 : ¬ ((255 : Int32) < p1)) :
    MetFree l (⟨"java/lang/String", "valueOf", "(C)Ljava/lang/String;"⟩ : MethodName) (head1 (Jvm.Cond.code (⟨"java/lang/String", "valueOf", "(C)Ljava/lang/String;"⟩ : MethodName) jdk_42_method_139_code 1 (some (.object "java/lang/String")) :: ws) ({ frames := 2, cells := 2, slots := 5, locals := 27 } : Room)) (fun a U => a = #[(.int p1)] ∧ Z.Warmed39 U.vm ∧ U.heap = h0) (fun _ _ _ _ _ => True) (fun _ U o U' => ∃ v L, o = .returned v ∧ Q_rm32 Z p1 zc h0 n0 v U'.heap L ∧ FrameEnd U o U' L ({ frames := 2, cells := 2, slots := 5, locals := 27 } : Room).cells ({ frames := 2, cells := 2, slots := 5, locals := 27 } : Room).slots) := by
  refine MetFree.of_bodySF (plainFor_of_name pn_14) hisR ?_
  intro p e s m args below meth c s₁ Bd hml0 hP hK
  obtain ⟨rfl, hZ, hh⟩ := hP
  have hx := Bd.exec
  have hby := Bd.bytes
  have hml : c.maxLocals = 1 := hml0
  have hown : s.vm.findClass "java/lang/String" = some m.cls := findClass_of_methodNamed Bd.named
  have hnm := (name_of_methodNamed Bd.named Bd.method).1
  have X0 : Stand p l e ({ frames := 2, cells := 2, slots := 5, locals := 27 } : Room) s m #[(.int p1)] below meth c s₁ [] 0 0 := Stand.of_body Bd
  have e0 : s₁.heap = h0 := by rw [← hh, Bd.state]; rfl
  have N0 := Fr.nil n0
  have Z0 : n0 ≤ h0.size := old_le O0
  have pre0 : ∀ t, Steps p.tables e below (s₁.setTop (mkF m 0 #[.val (.int p1)] [])) t → Steps p.tables e below (s₁.setTop (entryFrame m #[(.int p1)] 1)) t := fun t k => castTop (ef_rm32 m p1) k
  have c101 : Sta Z h0 "java/lang/String" "COMPACT_STRINGS" "Z" (.int zc) := Sta.ext (O0).2 SZ
  obtain ⟨T102, X102, e102, st102⟩ := getS2 X0 hx hZ hown (host := "") (Or.inl (hwk hw 269 rfl)) Via.refl e0 c101 (g := (mkF m 0 #[.val (.int p1)] [])) rfl (hb hby d32_0)
  obtain ⟨_, _, ⟨T103, L103, k103, n103⟩, -, X103, ⟨Lc103, hQ103, l103, y103, z103⟩, st103⟩ := Jvm.LawKit.callS X102 hx (y := (⟨"java/lang/StringLatin1", "canEncode", "(C)Z"⟩ : MethodName)) hown (mvT hZ (hwk hw 270 rfl)) (mvT hZ (hwk hw 271 rfl)) (mvT hZ (hwk hw 272 rfl)) (mvT hZ (hwk hw 273 rfl)) (by decide) (backOf (W := 0) (rm33 l Z a0 hw [] p1 h0 n0 O0 ) hZ (hwk hw 273 rfl) (hwk hw 272 rfl) (by decide) (by decide)) (g := (mkF m 7 #[.val (.int p1)] [(.int p1)])) rfl (by rw [hml]; rfl) (argsL := [(.int p1)]) (rest := []) (lenOf pd_13 rfl) rfl (by show 2 * 0 + _ ≤ _; exact Nat.le_of_eq rfl) (hb hby d32_7) (fun _ _ => ⟨rfl, e102, (by decide : 0 + 0 ≤ _), (by decide : 0 + 0 ≤ _)⟩)
  dsimp only [Pt.U, Pt.locs, Pt.cells, Pt.slots] at X103 l103 y103 z103 st103 hQ103
  subst l103 y103 z103
  unfold Q_rm33 at hQ103
  obtain ⟨rfl, N103q, e103⟩ := hQ103
  have N103 := Fr.app N0 N103q
  obtain ⟨T104, h104, X104, e104, E104, A104, D104, -, st104⟩ := newO X103 hx hZ hown (hwk hw 274 rfl) (hwk hw 103 rfl) (hwk hw 102 rfl) e103 (g := (mkF m 13 #[.val (.int p1)] [])) rfl (hb hby d32_13) (by decide) (by decide)
  obtain ⟨b104, g104⟩ : ∃ z, z = h0.size := ⟨_, rfl⟩
  rw [← g104] at A104 D104 st104
  have g_b104 : n0 ≤ b104 := Nat.le_trans (old_le O0) (Nat.le_of_eq g104.symm)
  have O105 : Old Z n0 h104 := Old.ext O0 E104
  obtain ⟨_, _, ⟨T106, L106, k106, n106⟩, -, X106, ⟨Lc106, hQ106, l106, y106, z106⟩, st106⟩ := Jvm.LawKit.callS X104 hx (y := (⟨"java/lang/StringLatin1", "toBytes", "(C)[B"⟩ : MethodName)) hown (mvT hZ (hwk hw 275 rfl)) (mvT hZ (hwk hw 276 rfl)) (mvT hZ (hwk hw 272 rfl)) (mvT hZ (hwk hw 277 rfl)) (by decide) (backOf (W := 2) (rm34 l Z a0 hw [] p1 h104 n0 O105 ) hZ (hwk hw 277 rfl) (hwk hw 272 rfl) (by decide) (by decide)) (g := (mkF m 18 #[.val (.int p1)] [(.int p1), (.ref b104), (.ref b104)])) rfl (by rw [hml]; rfl) (argsL := [(.int p1)]) (rest := [(.ref b104), (.ref b104)]) (lenOf pd_14 rfl) rfl (by show 2 * 0 + _ ≤ _; exact Nat.le_of_eq rfl) (hb hby d32_18) (fun _ _ => ⟨rfl, e104, (by decide : 1 + 1 ≤ _), (by decide : 4 + 1 ≤ _)⟩)
  dsimp only [Pt.U, Pt.locs, Pt.cells, Pt.slots] at X106 l106 y106 z106 st106 hQ106
  subst l106 y106 z106
  unfold Q_rm34 at hQ106
  obtain ⟨t_106, k_106, rfl, N106q, K106, ge_t_106, f106_0⟩ := hQ106
  have N106 := Fr.app N103 N106q
  have g_t_106 : n0 ≤ t_106 := Nat.le_trans (old_le O105) ge_t_106
  have c107 : Exa Z T106.heap b104 "java/lang/String" := (Exa.keep A104 K106)
  have c108 : Fld Z T106.heap b104 "java/lang/String" "value" "[B" .null := (Fld.keep (show Fld Z h104 b104 "java/lang/String" "value" "[B" .null from D104 (Or.inr (hwk hw 105 rfl)) (ty := (.array .byte)) (by decide)) K106 nin0)
  have c109 : Fld Z T106.heap b104 "java/lang/String" "coder" "B" (.int (0 : Int32)) := (Fld.keep (show Fld Z h104 b104 "java/lang/String" "coder" "B" (.int (0 : Int32)) from D104 (Or.inr (hwk hw 106 rfl)) (ty := .byte) (by decide)) K106 nin0)
  have O110 : Old Z n0 T106.heap := Old.keep O105 K106 all0
  obtain ⟨_, _, ⟨T111, L111, k111, n111⟩, -, X111, ⟨Lc111, hQ111, l111, y111, z111⟩, st111⟩ := X106.specialBack hx (y := (⟨"java/lang/String", "<init>", "([BB)V"⟩ : MethodName)) rfl hown (mvT hZ (hwk hw 278 rfl)) (mvT hZ (hwk hw 279 rfl)) (mvT hZ (hwk hw 281 rfl)) (by decide) (backOf (W := 1) (rm35 l Z a0 hw [] b104 t_106 T106.heap n0 O110 c107 g_b104 c108 c109) hZ (hwk hw 281 rfl) (hwk hw 102 rfl) (by decide) (by decide)) (g := (mkF m 22 #[.val (.int p1)] [(.int (0 : Int32)), (.ref t_106), (.ref b104), (.ref b104)])) rfl (by rw [hml]; rfl) (Steps.refl _) (a := b104) (argsL := [(.ref t_106), (.int (0 : Int32))]) (rest := [(.ref b104)]) (lenOf pd_15 rfl) rfl (by show 2 * 0 + _ ≤ _; exact Nat.le_of_eq rfl) (hb hby d32_22) (fun _ _ => ⟨rfl, (rfl : T106.heap = T106.heap), (by decide : 2 + 0 ≤ _), (by decide : 5 + 0 ≤ _)⟩)
  dsimp only [Pt.U, Pt.locs, Pt.cells, Pt.slots] at X111 l111 y111 z111 st111 hQ111
  subst l111 y111 z111
  unfold Q_rm35 at hQ111
  obtain ⟨rfl, N111q, K111, f111_0, f111_1, f111_2⟩ := hQ111
  have N111 := Fr.app N106 N111q
  have K112 : Keep h0 h104 [] := Keep.ext (Keep.refl h0 []) E104
  have K113 : Keep h0 T106.heap [] := Keep.trans K112 K106 all0
  have K114 : Keep h0 T111.heap [] := Keep.trans K113 K111 (allS (Or.inr (Nat.le_trans (Nat.le_refl _) (Nat.le_of_eq g104.symm))) all0)
  have c115 : Arv Z T111.heap t_106 k_106 .byte (1 : Int32) [(.int (nar .byte (p1.toInt8.toInt32)))] (.int (0 : Int32)) := (Arv.keep f106_0 K111 (ninS (Ne.symm (Exa.neArv c107 f106_0 (hwk hw 103 rfl))) nin0))
  obtain ⟨fs, hr, hrun, hended, hW, hsame⟩ := X111.leave (v := some (.ref b104)) (fun h => by rw [Bd.returns] at h; cases h)
  refine ⟨_, _, pre0 _ ?_, hrun, hended, _, _, rfl, ?_, ⟨_, rfl⟩, hW, hsame.mono (by decide) (by decide)⟩
  · show Steps p.tables e below (s₁.setTop (mkF m 0 #[.val (.int p1)] [])) _
    refine st102 _ ?_
    show Steps p.tables e below (T102.setTop (mkF m 3 #[.val (.int p1)] [(.int zc)])) _
    refine XS.ifNo X102.here hx rfl (hb hby d32_3) rfl ((if0 _ _).trans (feq (PZ : ¬ (zc = (0 : Int32)))).1) ?_
    show Steps p.tables e below (T102.setTop (mkF m 6 #[.val (.int p1)] [])) _
    refine XS.iloadN X102.here hx rfl (hb hby d32_6) rfl ?_
    show Steps p.tables e below (T102.setTop (mkF m 7 #[.val (.int p1)] [(.int p1)])) _
    refine st103 _ ?_
    show Steps p.tables e below (T103.setTop (mkF m 10 #[.val (.int p1)] [(.int (VCan p1))])) _
    refine XS.ifNo X103.here hx rfl (hb hby d32_10) rfl ((if0 _ _).trans (feq (by simp [VCan, hp1] : ¬ ((VCan p1) = (0 : Int32)))).1) ?_
    show Steps p.tables e below (T103.setTop (mkF m 13 #[.val (.int p1)] [])) _
    refine st104 _ ?_
    show Steps p.tables e below (T104.setTop (mkF m 16 #[.val (.int p1)] [(.ref b104)])) _
    refine XS.dup X104.here hx rfl (hb hby d32_16) rfl rfl ?_
    show Steps p.tables e below (T104.setTop (mkF m 17 #[.val (.int p1)] [(.ref b104), (.ref b104)])) _
    refine XS.iloadN X104.here hx rfl (hb hby d32_17) rfl ?_
    show Steps p.tables e below (T104.setTop (mkF m 18 #[.val (.int p1)] [(.int p1), (.ref b104), (.ref b104)])) _
    refine st106 _ ?_
    show Steps p.tables e below (T106.setTop (mkF m 21 #[.val (.int p1)] [(.ref t_106), (.ref b104), (.ref b104)])) _
    refine XS.iconst X106.here hx rfl (hb hby d32_21) ?_
    show Steps p.tables e below (T106.setTop (mkF m 22 #[.val (.int p1)] [(.int (0 : Int32)), (.ref t_106), (.ref b104), (.ref b104)])) _
    refine st111.trans ?_
    show Steps p.tables e below (T111.setTop (mkF m 25 #[.val (.int p1)] [(.ref b104)])) _
    exact Jvm.RoadKit.retOut X111 hx Bd.returns rfl (Or.inr (Or.inr (Or.inr (Or.inr ⟨rfl, rfl, rfl⟩)))) (hb hby d32_25) hr
  · show Q_rm32 Z p1 zc h0 n0 _ T111.heap _
    unfold Q_rm32
    exact ⟨b104, t_106, k_106, rfl, N111, K114, (Nat.le_trans (Nat.le_refl _) (Nat.le_of_eq g104.symm)), (Nat.le_trans (Nat.le_trans (Nat.le_refl _) E104.1) ge_t_106), f111_0, f111_1, f111_2, c115, (Ne.symm (Exa.neArv c107 f106_0 (hwk hw 103 rfl)))⟩
theorem ef_rm1 (m : MethodId) (x0 : Addr) (x1 : Int32) (x2 : Int32) (x3 : Int32) : entryFrame m #[(.ref x0), (.int x1), (.int x2), (.int x3)] 5 = mkF m 0 #[.val (.ref x0), .val (.int x1), .val (.int x2), .val (.int x3), .unset] [] := by first | (simp [entryFrame, mkF, argsToLocals, Value.category]; done) | rfl
def Q_rm1 (Z : State) (a1 : Addr) (p1 : Int32) (p2 : Int32) (p3 : Int32) (wd : Addr) (kd : ClassId) (vd : List Value) (w_Kind_EXIT : Addr) (w_Kind_ENTRY : Addr) (h0 : Heap) (n0 : Nat) (v : Option Value) (h : Heap) (L : List Loc) : Prop := ∃ l : Addr, ∃ e : Addr, ∃ t : Addr, ∃ k : ClassId, (v = none) ∧ (Fr n0 L) ∧ (Keep h0 h [a1]) ∧ (h0.size ≤ l) ∧ (h0.size ≤ e) ∧ (h0.size ≤ t) ∧ (Exa Z h a1 "com/example/fixlore/fixlore/lang/GraphBuilder") ∧ (Fld Z h a1 "com/example/fixlore/fixlore/lang/GraphBuilder" "pending" "Ljava/util/List;" (.ref l)) ∧ (Exa Z h l "java/util/ArrayList") ∧ (Fld Z h l "java/util/ArrayList" "elementData" "[Ljava/lang/Object;" (.ref t)) ∧ (Fld Z h l "java/util/ArrayList" "size" "I" (.int (1 : Int32))) ∧ (Fld Z h l "java/util/AbstractList" "modCount" "I" (.int ((0 : Int32) + (1 : Int32)))) ∧ (Arv Z h t k (.object "java/lang/Object") (10 : Int32) [(.ref e), .null, .null, .null, .null, .null, .null, .null, .null, .null] .null) ∧ (Ovr Z k "java/lang/Object") ∧ (Exa Z h e "com/example/fixlore/fixlore/lang/GraphBuilder$End") ∧ (Fld Z h e "com/example/fixlore/fixlore/lang/GraphBuilder$End" "from" "I" (.int (0 : Int32))) ∧ (Fld Z h e "com/example/fixlore/fixlore/lang/GraphBuilder$End" "branch" "Ljava/lang/String;" .null) ∧ (t ≠ l)
theorem d1_0 : decode prog_26_method_1_code 0 = .ok (.aload_n 0, 1) := by decide +kernel
theorem d1_1 : decode prog_26_method_1_code 1 = .ok (.invokespecial 1, 3) := by decide +kernel
theorem d1_4 : decode prog_26_method_1_code 4 = .ok (.aload_n 0, 1) := by decide +kernel
theorem d1_5 : decode prog_26_method_1_code 5 = .ok (.new 7, 3) := by decide +kernel
theorem d1_8 : decode prog_26_method_1_code 8 = .ok (.dup, 1) := by decide +kernel
theorem d1_9 : decode prog_26_method_1_code 9 = .ok (.invokespecial 9, 3) := by decide +kernel
theorem d1_12 : decode prog_26_method_1_code 12 = .ok (.putfield 10, 3) := by decide +kernel
theorem d1_15 : decode prog_26_method_1_code 15 = .ok (.aload_n 0, 1) := by decide +kernel
theorem d1_16 : decode prog_26_method_1_code 16 = .ok (.new 7, 3) := by decide +kernel
theorem d1_19 : decode prog_26_method_1_code 19 = .ok (.dup, 1) := by decide +kernel
theorem d1_20 : decode prog_26_method_1_code 20 = .ok (.invokespecial 9, 3) := by decide +kernel
theorem d1_23 : decode prog_26_method_1_code 23 = .ok (.putfield 16, 3) := by decide +kernel
theorem d1_26 : decode prog_26_method_1_code 26 = .ok (.aload_n 0, 1) := by decide +kernel
theorem d1_27 : decode prog_26_method_1_code 27 = .ok (.new 19, 3) := by decide +kernel
theorem d1_30 : decode prog_26_method_1_code 30 = .ok (.dup, 1) := by decide +kernel
theorem d1_31 : decode prog_26_method_1_code 31 = .ok (.invokespecial 21, 3) := by decide +kernel
theorem d1_34 : decode prog_26_method_1_code 34 = .ok (.putfield 22, 3) := by decide +kernel
theorem d1_37 : decode prog_26_method_1_code 37 = .ok (.aload_n 0, 1) := by decide +kernel
theorem d1_38 : decode prog_26_method_1_code 38 = .ok (.new 26, 3) := by decide +kernel
theorem d1_41 : decode prog_26_method_1_code 41 = .ok (.dup, 1) := by decide +kernel
theorem d1_42 : decode prog_26_method_1_code 42 = .ok (.invokespecial 28, 3) := by decide +kernel
theorem d1_45 : decode prog_26_method_1_code 45 = .ok (.putfield 29, 3) := by decide +kernel
theorem d1_48 : decode prog_26_method_1_code 48 = .ok (.aload_n 0, 1) := by decide +kernel
theorem d1_49 : decode prog_26_method_1_code 49 = .ok (.new 19, 3) := by decide +kernel
theorem d1_52 : decode prog_26_method_1_code 52 = .ok (.dup, 1) := by decide +kernel
theorem d1_53 : decode prog_26_method_1_code 53 = .ok (.invokespecial 21, 3) := by decide +kernel
theorem d1_56 : decode prog_26_method_1_code 56 = .ok (.putfield 33, 3) := by decide +kernel
theorem d1_59 : decode prog_26_method_1_code 59 = .ok (.aload_n 0, 1) := by decide +kernel
theorem d1_60 : decode prog_26_method_1_code 60 = .ok (.new 36, 3) := by decide +kernel
theorem d1_63 : decode prog_26_method_1_code 63 = .ok (.dup, 1) := by decide +kernel
theorem d1_64 : decode prog_26_method_1_code 64 = .ok (.invokespecial 38, 3) := by decide +kernel
theorem d1_67 : decode prog_26_method_1_code 67 = .ok (.putfield 39, 3) := by decide +kernel
theorem d1_70 : decode prog_26_method_1_code 70 = .ok (.aload_n 0, 1) := by decide +kernel
theorem d1_71 : decode prog_26_method_1_code 71 = .ok (.new 7, 3) := by decide +kernel
theorem d1_74 : decode prog_26_method_1_code 74 = .ok (.dup, 1) := by decide +kernel
theorem d1_75 : decode prog_26_method_1_code 75 = .ok (.invokespecial 9, 3) := by decide +kernel
theorem d1_78 : decode prog_26_method_1_code 78 = .ok (.putfield 43, 3) := by decide +kernel
theorem d1_81 : decode prog_26_method_1_code 81 = .ok (.aload_n 0, 1) := by decide +kernel
theorem d1_82 : decode prog_26_method_1_code 82 = .ok (.new 36, 3) := by decide +kernel
theorem d1_85 : decode prog_26_method_1_code 85 = .ok (.dup, 1) := by decide +kernel
theorem d1_86 : decode prog_26_method_1_code 86 = .ok (.invokespecial 38, 3) := by decide +kernel
theorem d1_89 : decode prog_26_method_1_code 89 = .ok (.putfield 46, 3) := by decide +kernel
theorem d1_92 : decode prog_26_method_1_code 92 = .ok (.aload_n 0, 1) := by decide +kernel
theorem d1_93 : decode prog_26_method_1_code 93 = .ok (.new 7, 3) := by decide +kernel
theorem d1_96 : decode prog_26_method_1_code 96 = .ok (.dup, 1) := by decide +kernel
theorem d1_97 : decode prog_26_method_1_code 97 = .ok (.invokespecial 9, 3) := by decide +kernel
theorem d1_100 : decode prog_26_method_1_code 100 = .ok (.putfield 49, 3) := by decide +kernel
theorem d1_103 : decode prog_26_method_1_code 103 = .ok (.aload_n 0, 1) := by decide +kernel
theorem d1_104 : decode prog_26_method_1_code 104 = .ok (.getstatic 52, 3) := by decide +kernel
theorem d1_107 : decode prog_26_method_1_code 107 = .ok (.ldc 58, 2) := by decide +kernel
theorem d1_109 : decode prog_26_method_1_code 109 = .ok (.iload_n 1, 1) := by decide +kernel
theorem d1_110 : decode prog_26_method_1_code 110 = .ok (.iload_n 2, 1) := by decide +kernel
theorem d1_111 : decode prog_26_method_1_code 111 = .ok (.invokevirtual 60, 3) := by decide +kernel
theorem pd_16 : parseMethodDescriptor "(Lcom/example/fixlore/fixlore/lang/SemanticGraph$Kind;Ljava/lang/String;II)I" = some ⟨[(.object "com/example/fixlore/fixlore/lang/SemanticGraph$Kind"), (.object "java/lang/String"), .int, .int], some .int⟩ := by decide +kernel
theorem d1_114 : decode prog_26_method_1_code 114 = .ok (.istore 4, 2) := by decide +kernel
theorem d1_116 : decode prog_26_method_1_code 116 = .ok (.aload_n 0, 1) := by decide +kernel
theorem d1_117 : decode prog_26_method_1_code 117 = .ok (.aload_n 0, 1) := by decide +kernel
theorem d1_118 : decode prog_26_method_1_code 118 = .ok (.getstatic 64, 3) := by decide +kernel
theorem d1_121 : decode prog_26_method_1_code 121 = .ok (.ldc 67, 2) := by decide +kernel
theorem d1_123 : decode prog_26_method_1_code 123 = .ok (.iload_n 3, 1) := by decide +kernel
theorem d1_124 : decode prog_26_method_1_code 124 = .ok (.iconst 1, 1) := by decide +kernel
theorem d1_125 : decode prog_26_method_1_code 125 = .ok (.invokevirtual 60, 3) := by decide +kernel
theorem d1_128 : decode prog_26_method_1_code 128 = .ok (.putfield 69, 3) := by decide +kernel
theorem d1_131 : decode prog_26_method_1_code 131 = .ok (.aload_n 0, 1) := by decide +kernel
theorem d1_132 : decode prog_26_method_1_code 132 = .ok (.iload 4, 2) := by decide +kernel
theorem d1_134 : decode prog_26_method_1_code 134 = .ok (.aconst_null, 1) := by decide +kernel
theorem d1_135 : decode prog_26_method_1_code 135 = .ok (.invokevirtual 72, 3) := by decide +kernel
theorem d1_138 : decode prog_26_method_1_code 138 = .ok (.return_, 1) := by decide +kernel
set_option maxRecDepth 65536 in
set_option maxHeartbeats 40000000 in
theorem rm1 (l : Launch) (Z : State) (a0 : Array Value) (hw : ∀ d ∈ tables_1, d.before a0 Z = true) (ws : List Jvm.Cond) (a1 : Addr) (p1 : Int32) (p2 : Int32) (p3 : Int32) (wd : Addr) (kd : ClassId) (vd : List Value) (w_Kind_EXIT : Addr) (w_Kind_ENTRY : Addr) (h0 : Heap) (n0 : Nat) (O0 : Old Z n0 h0) (E1 : Exa Z h0 a1 "com/example/fixlore/fixlore/lang/GraphBuilder") (g1 : n0 ≤ a1) (D0 : Fld Z h0 a1 "com/example/fixlore/fixlore/lang/GraphBuilder" "nodes" "Ljava/util/List;" .null) (D1 : Fld Z h0 a1 "com/example/fixlore/fixlore/lang/GraphBuilder" "edges" "Ljava/util/List;" .null) (D2 : Fld Z h0 a1 "com/example/fixlore/fixlore/lang/GraphBuilder" "variables" "Ljava/util/Map;" .null) (D3 : Fld Z h0 a1 "com/example/fixlore/fixlore/lang/GraphBuilder" "bound" "Ljava/util/Set;" .null) (D4 : Fld Z h0 a1 "com/example/fixlore/fixlore/lang/GraphBuilder" "outsideNames" "Ljava/util/Map;" .null) (D5 : Fld Z h0 a1 "com/example/fixlore/fixlore/lang/GraphBuilder" "frames" "Ljava/util/Deque;" .null) (D6 : Fld Z h0 a1 "com/example/fixlore/fixlore/lang/GraphBuilder" "tryParts" "Ljava/util/List;" .null) (D7 : Fld Z h0 a1 "com/example/fixlore/fixlore/lang/GraphBuilder" "openTryParts" "Ljava/util/Deque;" .null) (D8 : Fld Z h0 a1 "com/example/fixlore/fixlore/lang/GraphBuilder" "pending" "Ljava/util/List;" .null) (D9 : Fld Z h0 a1 "com/example/fixlore/fixlore/lang/GraphBuilder" "exit" "I" (.int (0 : Int32))) (SD : Sta Z Z.heap "java/util/ArrayList" "DEFAULTCAPACITY_EMPTY_ELEMENTDATA" "[Ljava/lang/Object;" (.ref wd)) (VD : Arv Z Z.heap wd kd (.object "java/lang/Object") (0 : Int32) vd .null) (S_Kind_EXIT : Sta Z Z.heap "com/example/fixlore/fixlore/lang/SemanticGraph$Kind" "EXIT" "Lcom/example/fixlore/fixlore/lang/SemanticGraph$Kind;" (.ref w_Kind_EXIT)) (S_Kind_ENTRY : Sta Z Z.heap "com/example/fixlore/fixlore/lang/SemanticGraph$Kind" "ENTRY" "Lcom/example/fixlore/fixlore/lang/SemanticGraph$Kind;" (.ref w_Kind_ENTRY)) :
    MetFree l (⟨"com/example/fixlore/fixlore/lang/GraphBuilder", "<init>", "(III)V"⟩ : MethodName) (head1 (Jvm.Cond.code (⟨"com/example/fixlore/fixlore/lang/GraphBuilder", "<init>", "(III)V"⟩ : MethodName) prog_26_method_1_code 5 none :: ws) ({ frames := 7, cells := 24, slots := 164, locals := 97 } : Room)) (fun a U => a = #[(.ref a1), (.int p1), (.int p2), (.int p3)] ∧ Z.Warmed39 U.vm ∧ U.heap = h0) (fun _ _ _ _ _ => True) (fun _ U o U' => ∃ v L, o = .returned v ∧ Q_rm1 Z a1 p1 p2 p3 wd kd vd w_Kind_EXIT w_Kind_ENTRY h0 n0 v U'.heap L ∧ ReturnedEndW U o U' L ({ frames := 7, cells := 24, slots := 164, locals := 97 } : Room).cells ({ frames := 7, cells := 24, slots := 164, locals := 97 } : Room).slots) := by
  refine MetFree.of_bodySF (plainFor_of_name pn_9) hisR ?_
  intro p e s m args below meth c s₁ Bd hml0 hP hK
  obtain ⟨rfl, hZ, hh⟩ := hP
  have hx := Bd.exec
  have hby := Bd.bytes
  have hml : c.maxLocals = 5 := hml0
  have hown : s.vm.findClass "com/example/fixlore/fixlore/lang/GraphBuilder" = some m.cls := findClass_of_methodNamed Bd.named
  have hnm := (name_of_methodNamed Bd.named Bd.method).1
  have hS0 : s.Since s.vm h0.size := (State.WarmedH.refl s).since _
  have hstr : ∀ a ∈ Bundle.stringAtoms, a.before a0 Z = true := own_str hw
  have X0 : Stand p l e ({ frames := 7, cells := 24, slots := 164, locals := 97 } : Room) (s.setVm s.vm) m #[(.ref a1), (.int p1), (.int p2), (.int p3)] below meth c s₁ [] 0 0 := Stand.of_body Bd
  have e0 : s₁.heap = h0 := by rw [← hh, Bd.state]; rfl
  have N0 := Fr.nil n0
  have Z0 : n0 ≤ h0.size := old_le O0
  have pre0 : ∀ t, Steps p.tables e below (s₁.setTop (mkF m 0 #[.val (.ref a1), .val (.int p1), .val (.int p2), .val (.int p3), .unset] [])) t → Steps p.tables e below (s₁.setTop (entryFrame m #[(.ref a1), (.int p1), (.int p2), (.int p3)] 5)) t := fun t k => castTop (ef_rm1 m a1 p1 p2 p3) k
  obtain ⟨T101, X101, e101, st101⟩ := initO X0 hx hZ hown (hwk hw 6 rfl) (hwk hw 7 rfl) (hwk hw 8 rfl) e0 (g := (mkF m 1 #[.val (.ref a1), .val (.int p1), .val (.int p2), .val (.int p3), .unset] [(.ref a1)])) rfl (by rw [hml]; rfl) rfl (hb hby d1_1) (by decide) (W := 0) (by show 2 * 0 + _ ≤ _; exact Nat.le_of_eq rfl) (by decide)
  obtain ⟨T102, h102, X102, e102, E102, A102, D102, -, st102⟩ := newO X101 hx hZ hown (hwk hw 9 rfl) (hwk hw 10 rfl) (hwk hw 11 rfl) e101 (g := (mkF m 5 #[.val (.ref a1), .val (.int p1), .val (.int p2), .val (.int p3), .unset] [(.ref a1)])) rfl (hb hby d1_5) (by decide) (by decide)
  obtain ⟨b102, g102⟩ : ∃ z, z = h0.size := ⟨_, rfl⟩
  rw [← g102] at A102 D102 st102
  have g_b102 : n0 ≤ b102 := Nat.le_trans (old_le O0) (Nat.le_of_eq g102.symm)
  have O103 : Old Z n0 h102 := Old.ext O0 E102
  obtain ⟨_, _, ⟨T104, L104, k104, n104⟩, -, X104, ⟨Lc104, hQ104, l104, y104, z104⟩, st104⟩ := X102.specialBack hx (y := (⟨"java/util/ArrayList", "<init>", "()V"⟩ : MethodName)) rfl hown (mvT hZ (hwk hw 12 rfl)) (mvT hZ (hwk hw 13 rfl)) (mvT hZ (hwk hw 14 rfl)) (by decide) (backOf (W := 2) (rm3 l Z a0 hw [] b102 wd h102 n0 O103 A102 g_b102 (show Fld Z h102 b102 "java/util/AbstractList" "modCount" "I" (.int (0 : Int32)) from D102 (Or.inl (hwk hw 29 rfl)) (ty := .int) (by decide)) (show Fld Z h102 b102 "java/util/ArrayList" "elementData" "[Ljava/lang/Object;" .null from D102 (Or.inl (hwk hw 32 rfl)) (ty := (.array (.object "java/lang/Object"))) (by decide)) (show Fld Z h102 b102 "java/util/ArrayList" "size" "I" (.int (0 : Int32)) from D102 (Or.inl (hwk hw 160 rfl)) (ty := .int) (by decide)) SD) hZ (hwk hw 14 rfl) (hwk hw 11 rfl) (by decide) (by decide)) (g := (mkF m 9 #[.val (.ref a1), .val (.int p1), .val (.int p2), .val (.int p3), .unset] [(.ref b102), (.ref b102), (.ref a1)])) rfl (by rw [hml]; rfl) (Steps.refl _) (a := b102) (argsL := []) (rest := [(.ref b102), (.ref a1)]) (lenOf pd_0 rfl) rfl (by show 2 * 0 + _ ≤ _; exact Nat.le_of_eq rfl) (hb hby d1_9) (fun _ _ => ⟨rfl, e102, (by decide : 1 + 0 ≤ _), (by decide : 3 + 0 ≤ _)⟩)
  dsimp only [Pt.U, Pt.locs, Pt.cells, Pt.slots] at X104 l104 y104 z104 st104 hQ104
  subst l104 y104 z104
  unfold Q_rm3 at hQ104
  obtain ⟨rfl, N104q, K104, f104_0, f104_1, f104_2, f104_3⟩ := hQ104
  have N104 := Fr.app N0 N104q
  have c105 : Exa Z T104.heap a1 "com/example/fixlore/fixlore/lang/GraphBuilder" := (Exa.keep (Exa.ext E102 E1) K104)
  have c106 : Fld Z T104.heap a1 "com/example/fixlore/fixlore/lang/GraphBuilder" "nodes" "Ljava/util/List;" .null := (Fld.keep (Fld.ext E102 D0) K104 (ninS (ne_exa c105 f104_0 (by decide)) nin0))
  obtain ⟨T107, h107, X107, e107, W107, st107⟩ := putF X104 hx hZ hown (host := "") (Or.inl (hwk hw 33 rfl)) Via.refl (rfl : T104.heap = T104.heap) c106 c105 (Or.inr ⟨(hwk hw 34 rfl), rfl, hnm⟩) (hwk hw 1 rfl) (ty := (.object "java/util/List")) (by decide) rfl rfl (g := (mkF m 12 #[.val (.ref a1), .val (.int p1), .val (.int p2), .val (.int p3), .unset] [(.ref b102), (.ref a1)])) rfl rfl (hb hby d1_12)
  have F107 : Fld Z h107 a1 "com/example/fixlore/fixlore/lang/GraphBuilder" "nodes" "Ljava/util/List;" (.ref b102) := Fld.same W107 c106
  have N107 := Fr.snoc X107 N104 g1
  have O108 : Old Z n0 T104.heap := Old.keep O103 K104 (allS g_b102 all0)
  have O109 : Old Z n0 h107 := Old.wr O108 W107 g1
  obtain ⟨T110, h110, X110, e110, E110, A110, D110, -, st110⟩ := newO X107 hx hZ hown (hwk hw 9 rfl) (hwk hw 10 rfl) (hwk hw 11 rfl) e107 (g := (mkF m 16 #[.val (.ref a1), .val (.int p1), .val (.int p2), .val (.int p3), .unset] [(.ref a1)])) rfl (hb hby d1_16) (by decide) (by decide)
  obtain ⟨b110, g110⟩ : ∃ z, z = h107.size := ⟨_, rfl⟩
  rw [← g110] at A110 D110 st110
  have g_b110 : n0 ≤ b110 := Nat.le_trans (old_le O109) (Nat.le_of_eq g110.symm)
  have O111 : Old Z n0 h110 := Old.ext O109 E110
  obtain ⟨_, _, ⟨T112, L112, k112, n112⟩, -, X112, ⟨Lc112, hQ112, l112, y112, z112⟩, st112⟩ := X110.specialBack hx (y := (⟨"java/util/ArrayList", "<init>", "()V"⟩ : MethodName)) rfl hown (mvT hZ (hwk hw 12 rfl)) (mvT hZ (hwk hw 13 rfl)) (mvT hZ (hwk hw 14 rfl)) (by decide) (backOf (W := 2) (rm3 l Z a0 hw [] b110 wd h110 n0 O111 A110 g_b110 (show Fld Z h110 b110 "java/util/AbstractList" "modCount" "I" (.int (0 : Int32)) from D110 (Or.inl (hwk hw 29 rfl)) (ty := .int) (by decide)) (show Fld Z h110 b110 "java/util/ArrayList" "elementData" "[Ljava/lang/Object;" .null from D110 (Or.inl (hwk hw 32 rfl)) (ty := (.array (.object "java/lang/Object"))) (by decide)) (show Fld Z h110 b110 "java/util/ArrayList" "size" "I" (.int (0 : Int32)) from D110 (Or.inl (hwk hw 160 rfl)) (ty := .int) (by decide)) SD) hZ (hwk hw 14 rfl) (hwk hw 11 rfl) (by decide) (by decide)) (g := (mkF m 20 #[.val (.ref a1), .val (.int p1), .val (.int p2), .val (.int p3), .unset] [(.ref b110), (.ref b110), (.ref a1)])) rfl (by rw [hml]; rfl) (Steps.refl _) (a := b110) (argsL := []) (rest := [(.ref b110), (.ref a1)]) (lenOf pd_0 rfl) rfl (by show 2 * 0 + _ ≤ _; exact Nat.le_of_eq rfl) (hb hby d1_20) (fun _ _ => ⟨rfl, e110, (by decide : 2 + 0 ≤ _), (by decide : 6 + 0 ≤ _)⟩)
  dsimp only [Pt.U, Pt.locs, Pt.cells, Pt.slots] at X112 l112 y112 z112 st112 hQ112
  subst l112 y112 z112
  unfold Q_rm3 at hQ112
  obtain ⟨rfl, N112q, K112, f112_0, f112_1, f112_2, f112_3⟩ := hQ112
  have N112 := Fr.app N107 N112q
  have c113 : Exa Z T112.heap a1 "com/example/fixlore/fixlore/lang/GraphBuilder" := (Exa.keep (Exa.ext E110 (Exa.wr W107 c105)) K112)
  have c114 : Fld Z T112.heap a1 "com/example/fixlore/fixlore/lang/GraphBuilder" "edges" "Ljava/util/List;" .null := (Fld.keep (Fld.ext E110 (Fld.other W107 (Fld.keep (Fld.ext E102 D1) K104 (ninS (ne_exa c105 f104_0 (by decide)) nin0)) (Or.inr (slot_ne (Or.inr (hwk hw 36 rfl)) (Or.inr (hwk hw 34 rfl)) (by decide) (t := (.object "java/util/List")) (t' := (.object "java/util/List")) (by decide) (by decide))))) K112 (ninS (ne_exa c113 f112_0 (by decide)) nin0))
  obtain ⟨T115, h115, X115, e115, W115, st115⟩ := putF X112 hx hZ hown (host := "") (Or.inl (hwk hw 35 rfl)) Via.refl (rfl : T112.heap = T112.heap) c114 c113 (Or.inr ⟨(hwk hw 36 rfl), rfl, hnm⟩) (hwk hw 1 rfl) (ty := (.object "java/util/List")) (by decide) rfl rfl (g := (mkF m 23 #[.val (.ref a1), .val (.int p1), .val (.int p2), .val (.int p3), .unset] [(.ref b110), (.ref a1)])) rfl rfl (hb hby d1_23)
  have F115 : Fld Z h115 a1 "com/example/fixlore/fixlore/lang/GraphBuilder" "edges" "Ljava/util/List;" (.ref b110) := Fld.same W115 c114
  have N115 := Fr.snoc X115 N112 g1
  have O116 : Old Z n0 T112.heap := Old.keep O111 K112 (allS g_b110 all0)
  have O117 : Old Z n0 h115 := Old.wr O116 W115 g1
  obtain ⟨T118, h118, X118, e118, E118, A118, D118, -, st118⟩ := newO X115 hx hZ hown (hwk hw 37 rfl) (hwk hw 38 rfl) (hwk hw 39 rfl) e115 (g := (mkF m 27 #[.val (.ref a1), .val (.int p1), .val (.int p2), .val (.int p3), .unset] [(.ref a1)])) rfl (hb hby d1_27) (by decide) (by decide)
  obtain ⟨b118, g118⟩ : ∃ z, z = h115.size := ⟨_, rfl⟩
  rw [← g118] at A118 D118 st118
  have g_b118 : n0 ≤ b118 := Nat.le_trans (old_le O117) (Nat.le_of_eq g118.symm)
  have O119 : Old Z n0 h118 := Old.ext O117 E118
  obtain ⟨_, _, ⟨T120, L120, k120, n120⟩, -, X120, ⟨Lc120, hQ120, l120, y120, z120⟩, st120⟩ := X118.specialBack hx (y := (⟨"java/util/HashMap", "<init>", "()V"⟩ : MethodName)) rfl hown (mvT hZ (hwk hw 40 rfl)) (mvT hZ (hwk hw 41 rfl)) (mvT hZ (hwk hw 42 rfl)) (by decide) (backOf (W := 2) (rm6 l Z a0 hw [] b118 h118 n0 O119 A118 g_b118 (show Fld Z h118 b118 "java/util/HashMap" "loadFactor" "F" (.float (0 : UInt32)) from D118 (Or.inr (hwk hw 52 rfl)) (ty := .float) (by decide))) hZ (hwk hw 42 rfl) (hwk hw 39 rfl) (by decide) (by decide)) (g := (mkF m 31 #[.val (.ref a1), .val (.int p1), .val (.int p2), .val (.int p3), .unset] [(.ref b118), (.ref b118), (.ref a1)])) rfl (by rw [hml]; rfl) (Steps.refl _) (a := b118) (argsL := []) (rest := [(.ref b118), (.ref a1)]) (lenOf pd_0 rfl) rfl (by show 2 * 0 + _ ≤ _; exact Nat.le_of_eq rfl) (hb hby d1_31) (fun _ _ => ⟨rfl, e118, (by decide : 3 + 0 ≤ _), (by decide : 14 + 0 ≤ _)⟩)
  dsimp only [Pt.U, Pt.locs, Pt.cells, Pt.slots] at X120 l120 y120 z120 st120 hQ120
  subst l120 y120 z120
  unfold Q_rm6 at hQ120
  obtain ⟨rfl, N120q, K120, f120_0⟩ := hQ120
  have N120 := Fr.app N115 N120q
  have c121 : Exa Z T120.heap a1 "com/example/fixlore/fixlore/lang/GraphBuilder" := (Exa.keep (Exa.ext E118 (Exa.wr W115 c113)) K120)
  have c122 : Fld Z T120.heap a1 "com/example/fixlore/fixlore/lang/GraphBuilder" "variables" "Ljava/util/Map;" .null := (Fld.keep (Fld.ext E118 (Fld.other W115 (Fld.keep (Fld.ext E110 (Fld.other W107 (Fld.keep (Fld.ext E102 D2) K104 (ninS (ne_exa c105 f104_0 (by decide)) nin0)) (Or.inr (slot_ne (Or.inr (hwk hw 54 rfl)) (Or.inr (hwk hw 34 rfl)) (by decide) (t := (.object "java/util/Map")) (t' := (.object "java/util/List")) (by decide) (by decide))))) K112 (ninS (ne_exa c113 f112_0 (by decide)) nin0)) (Or.inr (slot_ne (Or.inr (hwk hw 54 rfl)) (Or.inr (hwk hw 36 rfl)) (by decide) (t := (.object "java/util/Map")) (t' := (.object "java/util/List")) (by decide) (by decide))))) K120 (ninS (ne_exa c121 f120_0 (by decide)) nin0))
  obtain ⟨T123, h123, X123, e123, W123, st123⟩ := putF X120 hx hZ hown (host := "") (Or.inl (hwk hw 53 rfl)) Via.refl (rfl : T120.heap = T120.heap) c122 c121 (Or.inr ⟨(hwk hw 54 rfl), rfl, hnm⟩) (hwk hw 1 rfl) (ty := (.object "java/util/Map")) (by decide) rfl rfl (g := (mkF m 34 #[.val (.ref a1), .val (.int p1), .val (.int p2), .val (.int p3), .unset] [(.ref b118), (.ref a1)])) rfl rfl (hb hby d1_34)
  have F123 : Fld Z h123 a1 "com/example/fixlore/fixlore/lang/GraphBuilder" "variables" "Ljava/util/Map;" (.ref b118) := Fld.same W123 c122
  have N123 := Fr.snoc X123 N120 g1
  have O124 : Old Z n0 T120.heap := Old.keep O119 K120 (allS g_b118 all0)
  have O125 : Old Z n0 h123 := Old.wr O124 W123 g1
  obtain ⟨T126, h126, X126, e126, E126, A126, D126, -, st126⟩ := newO X123 hx hZ hown (hwk hw 55 rfl) (hwk hw 56 rfl) (hwk hw 57 rfl) e123 (g := (mkF m 38 #[.val (.ref a1), .val (.int p1), .val (.int p2), .val (.int p3), .unset] [(.ref a1)])) rfl (hb hby d1_38) (by decide) (by decide)
  obtain ⟨b126, g126⟩ : ∃ z, z = h123.size := ⟨_, rfl⟩
  rw [← g126] at A126 D126 st126
  have g_b126 : n0 ≤ b126 := Nat.le_trans (old_le O125) (Nat.le_of_eq g126.symm)
  have O127 : Old Z n0 h126 := Old.ext O125 E126
  obtain ⟨_, _, ⟨T128, L128, k128, n128⟩, -, X128, ⟨Lc128, hQ128, l128, y128, z128⟩, st128⟩ := X126.specialBack hx (y := (⟨"java/util/HashSet", "<init>", "()V"⟩ : MethodName)) rfl hown (mvT hZ (hwk hw 58 rfl)) (mvT hZ (hwk hw 59 rfl)) (mvT hZ (hwk hw 60 rfl)) (by decide) (backOf (W := 2) (rm8 l Z a0 hw [] b126 h126 n0 O127 A126 g_b126 (show Fld Z h126 b126 "java/util/HashSet" "map" "Ljava/util/HashMap;" .null from D126 (Or.inl (hwk hw 73 rfl)) (ty := (.object "java/util/HashMap")) (by decide))) hZ (hwk hw 60 rfl) (hwk hw 57 rfl) (by decide) (by decide)) (g := (mkF m 42 #[.val (.ref a1), .val (.int p1), .val (.int p2), .val (.int p3), .unset] [(.ref b126), (.ref b126), (.ref a1)])) rfl (by rw [hml]; rfl) (Steps.refl _) (a := b126) (argsL := []) (rest := [(.ref b126), (.ref a1)]) (lenOf pd_0 rfl) rfl (by show 2 * 0 + _ ≤ _; exact Nat.le_of_eq rfl) (hb hby d1_42) (fun _ _ => ⟨rfl, e126, (by decide : 4 + 1 ≤ _), (by decide : 15 + 8 ≤ _)⟩)
  dsimp only [Pt.U, Pt.locs, Pt.cells, Pt.slots] at X128 l128 y128 z128 st128 hQ128
  subst l128 y128 z128
  unfold Q_rm8 at hQ128
  obtain ⟨rfl, N128q, K128, f128_0⟩ := hQ128
  have N128 := Fr.app N123 N128q
  have c129 : Exa Z T128.heap a1 "com/example/fixlore/fixlore/lang/GraphBuilder" := (Exa.keep (Exa.ext E126 (Exa.wr W123 c121)) K128)
  have c130 : Fld Z T128.heap a1 "com/example/fixlore/fixlore/lang/GraphBuilder" "bound" "Ljava/util/Set;" .null := (Fld.keep (Fld.ext E126 (Fld.other W123 (Fld.keep (Fld.ext E118 (Fld.other W115 (Fld.keep (Fld.ext E110 (Fld.other W107 (Fld.keep (Fld.ext E102 D3) K104 (ninS (ne_exa c105 f104_0 (by decide)) nin0)) (Or.inr (slot_ne (Or.inr (hwk hw 75 rfl)) (Or.inr (hwk hw 34 rfl)) (by decide) (t := (.object "java/util/Set")) (t' := (.object "java/util/List")) (by decide) (by decide))))) K112 (ninS (ne_exa c113 f112_0 (by decide)) nin0)) (Or.inr (slot_ne (Or.inr (hwk hw 75 rfl)) (Or.inr (hwk hw 36 rfl)) (by decide) (t := (.object "java/util/Set")) (t' := (.object "java/util/List")) (by decide) (by decide))))) K120 (ninS (ne_exa c121 f120_0 (by decide)) nin0)) (Or.inr (slot_ne (Or.inr (hwk hw 75 rfl)) (Or.inr (hwk hw 54 rfl)) (by decide) (t := (.object "java/util/Set")) (t' := (.object "java/util/Map")) (by decide) (by decide))))) K128 (ninS (ne_exa c129 f128_0 (by decide)) nin0))
  obtain ⟨T131, h131, X131, e131, W131, st131⟩ := putF X128 hx hZ hown (host := "") (Or.inl (hwk hw 74 rfl)) Via.refl (rfl : T128.heap = T128.heap) c130 c129 (Or.inr ⟨(hwk hw 75 rfl), rfl, hnm⟩) (hwk hw 1 rfl) (ty := (.object "java/util/Set")) (by decide) rfl rfl (g := (mkF m 45 #[.val (.ref a1), .val (.int p1), .val (.int p2), .val (.int p3), .unset] [(.ref b126), (.ref a1)])) rfl rfl (hb hby d1_45)
  have F131 : Fld Z h131 a1 "com/example/fixlore/fixlore/lang/GraphBuilder" "bound" "Ljava/util/Set;" (.ref b126) := Fld.same W131 c130
  have N131 := Fr.snoc X131 N128 g1
  have O132 : Old Z n0 T128.heap := Old.keep O127 K128 (allS g_b126 all0)
  have O133 : Old Z n0 h131 := Old.wr O132 W131 g1
  obtain ⟨T134, h134, X134, e134, E134, A134, D134, -, st134⟩ := newO X131 hx hZ hown (hwk hw 37 rfl) (hwk hw 38 rfl) (hwk hw 39 rfl) e131 (g := (mkF m 49 #[.val (.ref a1), .val (.int p1), .val (.int p2), .val (.int p3), .unset] [(.ref a1)])) rfl (hb hby d1_49) (by decide) (by decide)
  obtain ⟨b134, g134⟩ : ∃ z, z = h131.size := ⟨_, rfl⟩
  rw [← g134] at A134 D134 st134
  have g_b134 : n0 ≤ b134 := Nat.le_trans (old_le O133) (Nat.le_of_eq g134.symm)
  have O135 : Old Z n0 h134 := Old.ext O133 E134
  obtain ⟨_, _, ⟨T136, L136, k136, n136⟩, -, X136, ⟨Lc136, hQ136, l136, y136, z136⟩, st136⟩ := X134.specialBack hx (y := (⟨"java/util/HashMap", "<init>", "()V"⟩ : MethodName)) rfl hown (mvT hZ (hwk hw 40 rfl)) (mvT hZ (hwk hw 41 rfl)) (mvT hZ (hwk hw 42 rfl)) (by decide) (backOf (W := 2) (rm6 l Z a0 hw [] b134 h134 n0 O135 A134 g_b134 (show Fld Z h134 b134 "java/util/HashMap" "loadFactor" "F" (.float (0 : UInt32)) from D134 (Or.inr (hwk hw 52 rfl)) (ty := .float) (by decide))) hZ (hwk hw 42 rfl) (hwk hw 39 rfl) (by decide) (by decide)) (g := (mkF m 53 #[.val (.ref a1), .val (.int p1), .val (.int p2), .val (.int p3), .unset] [(.ref b134), (.ref b134), (.ref a1)])) rfl (by rw [hml]; rfl) (Steps.refl _) (a := b134) (argsL := []) (rest := [(.ref b134), (.ref a1)]) (lenOf pd_0 rfl) rfl (by show 2 * 0 + _ ≤ _; exact Nat.le_of_eq rfl) (hb hby d1_53) (fun _ _ => ⟨rfl, e134, (by decide : 6 + 0 ≤ _), (by decide : 31 + 0 ≤ _)⟩)
  dsimp only [Pt.U, Pt.locs, Pt.cells, Pt.slots] at X136 l136 y136 z136 st136 hQ136
  subst l136 y136 z136
  unfold Q_rm6 at hQ136
  obtain ⟨rfl, N136q, K136, f136_0⟩ := hQ136
  have N136 := Fr.app N131 N136q
  have c137 : Exa Z T136.heap a1 "com/example/fixlore/fixlore/lang/GraphBuilder" := (Exa.keep (Exa.ext E134 (Exa.wr W131 c129)) K136)
  have c138 : Fld Z T136.heap a1 "com/example/fixlore/fixlore/lang/GraphBuilder" "outsideNames" "Ljava/util/Map;" .null := (Fld.keep (Fld.ext E134 (Fld.other W131 (Fld.keep (Fld.ext E126 (Fld.other W123 (Fld.keep (Fld.ext E118 (Fld.other W115 (Fld.keep (Fld.ext E110 (Fld.other W107 (Fld.keep (Fld.ext E102 D4) K104 (ninS (ne_exa c105 f104_0 (by decide)) nin0)) (Or.inr (slot_ne (Or.inr (hwk hw 77 rfl)) (Or.inr (hwk hw 34 rfl)) (by decide) (t := (.object "java/util/Map")) (t' := (.object "java/util/List")) (by decide) (by decide))))) K112 (ninS (ne_exa c113 f112_0 (by decide)) nin0)) (Or.inr (slot_ne (Or.inr (hwk hw 77 rfl)) (Or.inr (hwk hw 36 rfl)) (by decide) (t := (.object "java/util/Map")) (t' := (.object "java/util/List")) (by decide) (by decide))))) K120 (ninS (ne_exa c121 f120_0 (by decide)) nin0)) (Or.inr (slot_ne (Or.inr (hwk hw 77 rfl)) (Or.inr (hwk hw 54 rfl)) (by decide) (t := (.object "java/util/Map")) (t' := (.object "java/util/Map")) (by decide) (by decide))))) K128 (ninS (ne_exa c129 f128_0 (by decide)) nin0)) (Or.inr (slot_ne (Or.inr (hwk hw 77 rfl)) (Or.inr (hwk hw 75 rfl)) (by decide) (t := (.object "java/util/Map")) (t' := (.object "java/util/Set")) (by decide) (by decide))))) K136 (ninS (ne_exa c137 f136_0 (by decide)) nin0))
  obtain ⟨T139, h139, X139, e139, W139, st139⟩ := putF X136 hx hZ hown (host := "") (Or.inl (hwk hw 76 rfl)) Via.refl (rfl : T136.heap = T136.heap) c138 c137 (Or.inr ⟨(hwk hw 77 rfl), rfl, hnm⟩) (hwk hw 1 rfl) (ty := (.object "java/util/Map")) (by decide) rfl rfl (g := (mkF m 56 #[.val (.ref a1), .val (.int p1), .val (.int p2), .val (.int p3), .unset] [(.ref b134), (.ref a1)])) rfl rfl (hb hby d1_56)
  have F139 : Fld Z h139 a1 "com/example/fixlore/fixlore/lang/GraphBuilder" "outsideNames" "Ljava/util/Map;" (.ref b134) := Fld.same W139 c138
  have N139 := Fr.snoc X139 N136 g1
  have O140 : Old Z n0 T136.heap := Old.keep O135 K136 (allS g_b134 all0)
  have O141 : Old Z n0 h139 := Old.wr O140 W139 g1
  obtain ⟨T142, h142, X142, e142, E142, A142, D142, -, st142⟩ := newO X139 hx hZ hown (hwk hw 78 rfl) (hwk hw 79 rfl) (hwk hw 80 rfl) e139 (g := (mkF m 60 #[.val (.ref a1), .val (.int p1), .val (.int p2), .val (.int p3), .unset] [(.ref a1)])) rfl (hb hby d1_60) (by decide) (by decide)
  obtain ⟨b142, g142⟩ : ∃ z, z = h139.size := ⟨_, rfl⟩
  rw [← g142] at A142 D142 st142
  have g_b142 : n0 ≤ b142 := Nat.le_trans (old_le O141) (Nat.le_of_eq g142.symm)
  have O143 : Old Z n0 h142 := Old.ext O141 E142
  obtain ⟨_, _, ⟨T144, L144, k144, n144⟩, -, X144, ⟨Lc144, hQ144, l144, y144, z144⟩, st144⟩ := X142.specialBack hx (y := (⟨"java/util/ArrayDeque", "<init>", "()V"⟩ : MethodName)) rfl hown (mvT hZ (hwk hw 81 rfl)) (mvT hZ (hwk hw 82 rfl)) (mvT hZ (hwk hw 83 rfl)) (by decide) (backOf (W := 2) (rm10 l Z a0 hw [] b142 h142 n0 O143 A142 g_b142 (show Fld Z h142 b142 "java/util/ArrayDeque" "elements" "[Ljava/lang/Object;" .null from D142 (Or.inl (hwk hw 89 rfl)) (ty := (.array (.object "java/lang/Object"))) (by decide)) (show Fld Z h142 b142 "java/util/ArrayDeque" "head" "I" (.int (0 : Int32)) from D142 (Or.inl (hwk hw 124 rfl)) (ty := .int) (by decide)) (show Fld Z h142 b142 "java/util/ArrayDeque" "tail" "I" (.int (0 : Int32)) from D142 (Or.inl (hwk hw 126 rfl)) (ty := .int) (by decide))) hZ (hwk hw 83 rfl) (hwk hw 80 rfl) (by decide) (by decide)) (g := (mkF m 64 #[.val (.ref a1), .val (.int p1), .val (.int p2), .val (.int p3), .unset] [(.ref b142), (.ref b142), (.ref a1)])) rfl (by rw [hml]; rfl) (Steps.refl _) (a := b142) (argsL := []) (rest := [(.ref b142), (.ref a1)]) (lenOf pd_0 rfl) rfl (by show 2 * 0 + _ ≤ _; exact Nat.le_of_eq rfl) (hb hby d1_64) (fun _ _ => ⟨rfl, e142, (by decide : 7 + 1 ≤ _), (by decide : 34 + 17 ≤ _)⟩)
  dsimp only [Pt.U, Pt.locs, Pt.cells, Pt.slots] at X144 l144 y144 z144 st144 hQ144
  subst l144 y144 z144
  unfold Q_rm10 at hQ144
  obtain ⟨rfl, N144q, K144, f144_0, f144_1, f144_2⟩ := hQ144
  have N144 := Fr.app N139 N144q
  have c145 : Exa Z T144.heap a1 "com/example/fixlore/fixlore/lang/GraphBuilder" := (Exa.keep (Exa.ext E142 (Exa.wr W139 c137)) K144)
  have c146 : Fld Z T144.heap a1 "com/example/fixlore/fixlore/lang/GraphBuilder" "frames" "Ljava/util/Deque;" .null := (Fld.keep (Fld.ext E142 (Fld.other W139 (Fld.keep (Fld.ext E134 (Fld.other W131 (Fld.keep (Fld.ext E126 (Fld.other W123 (Fld.keep (Fld.ext E118 (Fld.other W115 (Fld.keep (Fld.ext E110 (Fld.other W107 (Fld.keep (Fld.ext E102 D5) K104 (ninS (ne_exa c105 f104_0 (by decide)) nin0)) (Or.inr (slot_ne (Or.inr (hwk hw 91 rfl)) (Or.inr (hwk hw 34 rfl)) (by decide) (t := (.object "java/util/Deque")) (t' := (.object "java/util/List")) (by decide) (by decide))))) K112 (ninS (ne_exa c113 f112_0 (by decide)) nin0)) (Or.inr (slot_ne (Or.inr (hwk hw 91 rfl)) (Or.inr (hwk hw 36 rfl)) (by decide) (t := (.object "java/util/Deque")) (t' := (.object "java/util/List")) (by decide) (by decide))))) K120 (ninS (ne_exa c121 f120_0 (by decide)) nin0)) (Or.inr (slot_ne (Or.inr (hwk hw 91 rfl)) (Or.inr (hwk hw 54 rfl)) (by decide) (t := (.object "java/util/Deque")) (t' := (.object "java/util/Map")) (by decide) (by decide))))) K128 (ninS (ne_exa c129 f128_0 (by decide)) nin0)) (Or.inr (slot_ne (Or.inr (hwk hw 91 rfl)) (Or.inr (hwk hw 75 rfl)) (by decide) (t := (.object "java/util/Deque")) (t' := (.object "java/util/Set")) (by decide) (by decide))))) K136 (ninS (ne_exa c137 f136_0 (by decide)) nin0)) (Or.inr (slot_ne (Or.inr (hwk hw 91 rfl)) (Or.inr (hwk hw 77 rfl)) (by decide) (t := (.object "java/util/Deque")) (t' := (.object "java/util/Map")) (by decide) (by decide))))) K144 (ninS (ne_exa c145 f144_0 (by decide)) nin0))
  obtain ⟨T147, h147, X147, e147, W147, st147⟩ := putF X144 hx hZ hown (host := "") (Or.inl (hwk hw 90 rfl)) Via.refl (rfl : T144.heap = T144.heap) c146 c145 (Or.inr ⟨(hwk hw 91 rfl), rfl, hnm⟩) (hwk hw 1 rfl) (ty := (.object "java/util/Deque")) (by decide) rfl rfl (g := (mkF m 67 #[.val (.ref a1), .val (.int p1), .val (.int p2), .val (.int p3), .unset] [(.ref b142), (.ref a1)])) rfl rfl (hb hby d1_67)
  have F147 : Fld Z h147 a1 "com/example/fixlore/fixlore/lang/GraphBuilder" "frames" "Ljava/util/Deque;" (.ref b142) := Fld.same W147 c146
  have N147 := Fr.snoc X147 N144 g1
  have O148 : Old Z n0 T144.heap := Old.keep O143 K144 (allS g_b142 all0)
  have O149 : Old Z n0 h147 := Old.wr O148 W147 g1
  obtain ⟨T150, h150, X150, e150, E150, A150, D150, -, st150⟩ := newO X147 hx hZ hown (hwk hw 9 rfl) (hwk hw 10 rfl) (hwk hw 11 rfl) e147 (g := (mkF m 71 #[.val (.ref a1), .val (.int p1), .val (.int p2), .val (.int p3), .unset] [(.ref a1)])) rfl (hb hby d1_71) (by decide) (by decide)
  obtain ⟨b150, g150⟩ : ∃ z, z = h147.size := ⟨_, rfl⟩
  rw [← g150] at A150 D150 st150
  have g_b150 : n0 ≤ b150 := Nat.le_trans (old_le O149) (Nat.le_of_eq g150.symm)
  have O151 : Old Z n0 h150 := Old.ext O149 E150
  obtain ⟨_, _, ⟨T152, L152, k152, n152⟩, -, X152, ⟨Lc152, hQ152, l152, y152, z152⟩, st152⟩ := X150.specialBack hx (y := (⟨"java/util/ArrayList", "<init>", "()V"⟩ : MethodName)) rfl hown (mvT hZ (hwk hw 12 rfl)) (mvT hZ (hwk hw 13 rfl)) (mvT hZ (hwk hw 14 rfl)) (by decide) (backOf (W := 2) (rm3 l Z a0 hw [] b150 wd h150 n0 O151 A150 g_b150 (show Fld Z h150 b150 "java/util/AbstractList" "modCount" "I" (.int (0 : Int32)) from D150 (Or.inl (hwk hw 29 rfl)) (ty := .int) (by decide)) (show Fld Z h150 b150 "java/util/ArrayList" "elementData" "[Ljava/lang/Object;" .null from D150 (Or.inl (hwk hw 32 rfl)) (ty := (.array (.object "java/lang/Object"))) (by decide)) (show Fld Z h150 b150 "java/util/ArrayList" "size" "I" (.int (0 : Int32)) from D150 (Or.inl (hwk hw 160 rfl)) (ty := .int) (by decide)) SD) hZ (hwk hw 14 rfl) (hwk hw 11 rfl) (by decide) (by decide)) (g := (mkF m 75 #[.val (.ref a1), .val (.int p1), .val (.int p2), .val (.int p3), .unset] [(.ref b150), (.ref b150), (.ref a1)])) rfl (by rw [hml]; rfl) (Steps.refl _) (a := b150) (argsL := []) (rest := [(.ref b150), (.ref a1)]) (lenOf pd_0 rfl) rfl (by show 2 * 0 + _ ≤ _; exact Nat.le_of_eq rfl) (hb hby d1_75) (fun _ _ => ⟨rfl, e150, (by decide : 9 + 0 ≤ _), (by decide : 54 + 0 ≤ _)⟩)
  dsimp only [Pt.U, Pt.locs, Pt.cells, Pt.slots] at X152 l152 y152 z152 st152 hQ152
  subst l152 y152 z152
  unfold Q_rm3 at hQ152
  obtain ⟨rfl, N152q, K152, f152_0, f152_1, f152_2, f152_3⟩ := hQ152
  have N152 := Fr.app N147 N152q
  have c153 : Exa Z T152.heap a1 "com/example/fixlore/fixlore/lang/GraphBuilder" := (Exa.keep (Exa.ext E150 (Exa.wr W147 c145)) K152)
  have c154 : Fld Z T152.heap a1 "com/example/fixlore/fixlore/lang/GraphBuilder" "tryParts" "Ljava/util/List;" .null := (Fld.keep (Fld.ext E150 (Fld.other W147 (Fld.keep (Fld.ext E142 (Fld.other W139 (Fld.keep (Fld.ext E134 (Fld.other W131 (Fld.keep (Fld.ext E126 (Fld.other W123 (Fld.keep (Fld.ext E118 (Fld.other W115 (Fld.keep (Fld.ext E110 (Fld.other W107 (Fld.keep (Fld.ext E102 D6) K104 (ninS (ne_exa c105 f104_0 (by decide)) nin0)) (Or.inr (slot_ne (Or.inr (hwk hw 93 rfl)) (Or.inr (hwk hw 34 rfl)) (by decide) (t := (.object "java/util/List")) (t' := (.object "java/util/List")) (by decide) (by decide))))) K112 (ninS (ne_exa c113 f112_0 (by decide)) nin0)) (Or.inr (slot_ne (Or.inr (hwk hw 93 rfl)) (Or.inr (hwk hw 36 rfl)) (by decide) (t := (.object "java/util/List")) (t' := (.object "java/util/List")) (by decide) (by decide))))) K120 (ninS (ne_exa c121 f120_0 (by decide)) nin0)) (Or.inr (slot_ne (Or.inr (hwk hw 93 rfl)) (Or.inr (hwk hw 54 rfl)) (by decide) (t := (.object "java/util/List")) (t' := (.object "java/util/Map")) (by decide) (by decide))))) K128 (ninS (ne_exa c129 f128_0 (by decide)) nin0)) (Or.inr (slot_ne (Or.inr (hwk hw 93 rfl)) (Or.inr (hwk hw 75 rfl)) (by decide) (t := (.object "java/util/List")) (t' := (.object "java/util/Set")) (by decide) (by decide))))) K136 (ninS (ne_exa c137 f136_0 (by decide)) nin0)) (Or.inr (slot_ne (Or.inr (hwk hw 93 rfl)) (Or.inr (hwk hw 77 rfl)) (by decide) (t := (.object "java/util/List")) (t' := (.object "java/util/Map")) (by decide) (by decide))))) K144 (ninS (ne_exa c145 f144_0 (by decide)) nin0)) (Or.inr (slot_ne (Or.inr (hwk hw 93 rfl)) (Or.inr (hwk hw 91 rfl)) (by decide) (t := (.object "java/util/List")) (t' := (.object "java/util/Deque")) (by decide) (by decide))))) K152 (ninS (ne_exa c153 f152_0 (by decide)) nin0))
  obtain ⟨T155, h155, X155, e155, W155, st155⟩ := putF X152 hx hZ hown (host := "") (Or.inl (hwk hw 92 rfl)) Via.refl (rfl : T152.heap = T152.heap) c154 c153 (Or.inr ⟨(hwk hw 93 rfl), rfl, hnm⟩) (hwk hw 1 rfl) (ty := (.object "java/util/List")) (by decide) rfl rfl (g := (mkF m 78 #[.val (.ref a1), .val (.int p1), .val (.int p2), .val (.int p3), .unset] [(.ref b150), (.ref a1)])) rfl rfl (hb hby d1_78)
  have F155 : Fld Z h155 a1 "com/example/fixlore/fixlore/lang/GraphBuilder" "tryParts" "Ljava/util/List;" (.ref b150) := Fld.same W155 c154
  have N155 := Fr.snoc X155 N152 g1
  have O156 : Old Z n0 T152.heap := Old.keep O151 K152 (allS g_b150 all0)
  have O157 : Old Z n0 h155 := Old.wr O156 W155 g1
  obtain ⟨T158, h158, X158, e158, E158, A158, D158, -, st158⟩ := newO X155 hx hZ hown (hwk hw 78 rfl) (hwk hw 79 rfl) (hwk hw 80 rfl) e155 (g := (mkF m 82 #[.val (.ref a1), .val (.int p1), .val (.int p2), .val (.int p3), .unset] [(.ref a1)])) rfl (hb hby d1_82) (by decide) (by decide)
  obtain ⟨b158, g158⟩ : ∃ z, z = h155.size := ⟨_, rfl⟩
  rw [← g158] at A158 D158 st158
  have g_b158 : n0 ≤ b158 := Nat.le_trans (old_le O157) (Nat.le_of_eq g158.symm)
  have O159 : Old Z n0 h158 := Old.ext O157 E158
  obtain ⟨_, _, ⟨T160, L160, k160, n160⟩, -, X160, ⟨Lc160, hQ160, l160, y160, z160⟩, st160⟩ := X158.specialBack hx (y := (⟨"java/util/ArrayDeque", "<init>", "()V"⟩ : MethodName)) rfl hown (mvT hZ (hwk hw 81 rfl)) (mvT hZ (hwk hw 82 rfl)) (mvT hZ (hwk hw 83 rfl)) (by decide) (backOf (W := 2) (rm10 l Z a0 hw [] b158 h158 n0 O159 A158 g_b158 (show Fld Z h158 b158 "java/util/ArrayDeque" "elements" "[Ljava/lang/Object;" .null from D158 (Or.inl (hwk hw 89 rfl)) (ty := (.array (.object "java/lang/Object"))) (by decide)) (show Fld Z h158 b158 "java/util/ArrayDeque" "head" "I" (.int (0 : Int32)) from D158 (Or.inl (hwk hw 124 rfl)) (ty := .int) (by decide)) (show Fld Z h158 b158 "java/util/ArrayDeque" "tail" "I" (.int (0 : Int32)) from D158 (Or.inl (hwk hw 126 rfl)) (ty := .int) (by decide))) hZ (hwk hw 83 rfl) (hwk hw 80 rfl) (by decide) (by decide)) (g := (mkF m 86 #[.val (.ref a1), .val (.int p1), .val (.int p2), .val (.int p3), .unset] [(.ref b158), (.ref b158), (.ref a1)])) rfl (by rw [hml]; rfl) (Steps.refl _) (a := b158) (argsL := []) (rest := [(.ref b158), (.ref a1)]) (lenOf pd_0 rfl) rfl (by show 2 * 0 + _ ≤ _; exact Nat.le_of_eq rfl) (hb hby d1_86) (fun _ _ => ⟨rfl, e158, (by decide : 10 + 1 ≤ _), (by decide : 57 + 17 ≤ _)⟩)
  dsimp only [Pt.U, Pt.locs, Pt.cells, Pt.slots] at X160 l160 y160 z160 st160 hQ160
  subst l160 y160 z160
  unfold Q_rm10 at hQ160
  obtain ⟨rfl, N160q, K160, f160_0, f160_1, f160_2⟩ := hQ160
  have N160 := Fr.app N155 N160q
  have c161 : Exa Z T160.heap a1 "com/example/fixlore/fixlore/lang/GraphBuilder" := (Exa.keep (Exa.ext E158 (Exa.wr W155 c153)) K160)
  have c162 : Fld Z T160.heap a1 "com/example/fixlore/fixlore/lang/GraphBuilder" "openTryParts" "Ljava/util/Deque;" .null := (Fld.keep (Fld.ext E158 (Fld.other W155 (Fld.keep (Fld.ext E150 (Fld.other W147 (Fld.keep (Fld.ext E142 (Fld.other W139 (Fld.keep (Fld.ext E134 (Fld.other W131 (Fld.keep (Fld.ext E126 (Fld.other W123 (Fld.keep (Fld.ext E118 (Fld.other W115 (Fld.keep (Fld.ext E110 (Fld.other W107 (Fld.keep (Fld.ext E102 D7) K104 (ninS (ne_exa c105 f104_0 (by decide)) nin0)) (Or.inr (slot_ne (Or.inr (hwk hw 95 rfl)) (Or.inr (hwk hw 34 rfl)) (by decide) (t := (.object "java/util/Deque")) (t' := (.object "java/util/List")) (by decide) (by decide))))) K112 (ninS (ne_exa c113 f112_0 (by decide)) nin0)) (Or.inr (slot_ne (Or.inr (hwk hw 95 rfl)) (Or.inr (hwk hw 36 rfl)) (by decide) (t := (.object "java/util/Deque")) (t' := (.object "java/util/List")) (by decide) (by decide))))) K120 (ninS (ne_exa c121 f120_0 (by decide)) nin0)) (Or.inr (slot_ne (Or.inr (hwk hw 95 rfl)) (Or.inr (hwk hw 54 rfl)) (by decide) (t := (.object "java/util/Deque")) (t' := (.object "java/util/Map")) (by decide) (by decide))))) K128 (ninS (ne_exa c129 f128_0 (by decide)) nin0)) (Or.inr (slot_ne (Or.inr (hwk hw 95 rfl)) (Or.inr (hwk hw 75 rfl)) (by decide) (t := (.object "java/util/Deque")) (t' := (.object "java/util/Set")) (by decide) (by decide))))) K136 (ninS (ne_exa c137 f136_0 (by decide)) nin0)) (Or.inr (slot_ne (Or.inr (hwk hw 95 rfl)) (Or.inr (hwk hw 77 rfl)) (by decide) (t := (.object "java/util/Deque")) (t' := (.object "java/util/Map")) (by decide) (by decide))))) K144 (ninS (ne_exa c145 f144_0 (by decide)) nin0)) (Or.inr (slot_ne (Or.inr (hwk hw 95 rfl)) (Or.inr (hwk hw 91 rfl)) (by decide) (t := (.object "java/util/Deque")) (t' := (.object "java/util/Deque")) (by decide) (by decide))))) K152 (ninS (ne_exa c153 f152_0 (by decide)) nin0)) (Or.inr (slot_ne (Or.inr (hwk hw 95 rfl)) (Or.inr (hwk hw 93 rfl)) (by decide) (t := (.object "java/util/Deque")) (t' := (.object "java/util/List")) (by decide) (by decide))))) K160 (ninS (ne_exa c161 f160_0 (by decide)) nin0))
  obtain ⟨T163, h163, X163, e163, W163, st163⟩ := putF X160 hx hZ hown (host := "") (Or.inl (hwk hw 94 rfl)) Via.refl (rfl : T160.heap = T160.heap) c162 c161 (Or.inr ⟨(hwk hw 95 rfl), rfl, hnm⟩) (hwk hw 1 rfl) (ty := (.object "java/util/Deque")) (by decide) rfl rfl (g := (mkF m 89 #[.val (.ref a1), .val (.int p1), .val (.int p2), .val (.int p3), .unset] [(.ref b158), (.ref a1)])) rfl rfl (hb hby d1_89)
  have F163 : Fld Z h163 a1 "com/example/fixlore/fixlore/lang/GraphBuilder" "openTryParts" "Ljava/util/Deque;" (.ref b158) := Fld.same W163 c162
  have N163 := Fr.snoc X163 N160 g1
  have O164 : Old Z n0 T160.heap := Old.keep O159 K160 (allS g_b158 all0)
  have O165 : Old Z n0 h163 := Old.wr O164 W163 g1
  obtain ⟨T166, h166, X166, e166, E166, A166, D166, -, st166⟩ := newO X163 hx hZ hown (hwk hw 9 rfl) (hwk hw 10 rfl) (hwk hw 11 rfl) e163 (g := (mkF m 93 #[.val (.ref a1), .val (.int p1), .val (.int p2), .val (.int p3), .unset] [(.ref a1)])) rfl (hb hby d1_93) (by decide) (by decide)
  obtain ⟨b166, g166⟩ : ∃ z, z = h163.size := ⟨_, rfl⟩
  rw [← g166] at A166 D166 st166
  have g_b166 : n0 ≤ b166 := Nat.le_trans (old_le O165) (Nat.le_of_eq g166.symm)
  have O167 : Old Z n0 h166 := Old.ext O165 E166
  obtain ⟨_, _, ⟨T168, L168, k168, n168⟩, -, X168, ⟨Lc168, hQ168, l168, y168, z168⟩, st168⟩ := X166.specialBack hx (y := (⟨"java/util/ArrayList", "<init>", "()V"⟩ : MethodName)) rfl hown (mvT hZ (hwk hw 12 rfl)) (mvT hZ (hwk hw 13 rfl)) (mvT hZ (hwk hw 14 rfl)) (by decide) (backOf (W := 2) (rm3 l Z a0 hw [] b166 wd h166 n0 O167 A166 g_b166 (show Fld Z h166 b166 "java/util/AbstractList" "modCount" "I" (.int (0 : Int32)) from D166 (Or.inl (hwk hw 29 rfl)) (ty := .int) (by decide)) (show Fld Z h166 b166 "java/util/ArrayList" "elementData" "[Ljava/lang/Object;" .null from D166 (Or.inl (hwk hw 32 rfl)) (ty := (.array (.object "java/lang/Object"))) (by decide)) (show Fld Z h166 b166 "java/util/ArrayList" "size" "I" (.int (0 : Int32)) from D166 (Or.inl (hwk hw 160 rfl)) (ty := .int) (by decide)) SD) hZ (hwk hw 14 rfl) (hwk hw 11 rfl) (by decide) (by decide)) (g := (mkF m 97 #[.val (.ref a1), .val (.int p1), .val (.int p2), .val (.int p3), .unset] [(.ref b166), (.ref b166), (.ref a1)])) rfl (by rw [hml]; rfl) (Steps.refl _) (a := b166) (argsL := []) (rest := [(.ref b166), (.ref a1)]) (lenOf pd_0 rfl) rfl (by show 2 * 0 + _ ≤ _; exact Nat.le_of_eq rfl) (hb hby d1_97) (fun _ _ => ⟨rfl, e166, (by decide : 12 + 0 ≤ _), (by decide : 77 + 0 ≤ _)⟩)
  dsimp only [Pt.U, Pt.locs, Pt.cells, Pt.slots] at X168 l168 y168 z168 st168 hQ168
  subst l168 y168 z168
  unfold Q_rm3 at hQ168
  obtain ⟨rfl, N168q, K168, f168_0, f168_1, f168_2, f168_3⟩ := hQ168
  have N168 := Fr.app N163 N168q
  have c169 : Exa Z T168.heap a1 "com/example/fixlore/fixlore/lang/GraphBuilder" := (Exa.keep (Exa.ext E166 (Exa.wr W163 c161)) K168)
  have c170 : Fld Z T168.heap a1 "com/example/fixlore/fixlore/lang/GraphBuilder" "pending" "Ljava/util/List;" .null := (Fld.keep (Fld.ext E166 (Fld.other W163 (Fld.keep (Fld.ext E158 (Fld.other W155 (Fld.keep (Fld.ext E150 (Fld.other W147 (Fld.keep (Fld.ext E142 (Fld.other W139 (Fld.keep (Fld.ext E134 (Fld.other W131 (Fld.keep (Fld.ext E126 (Fld.other W123 (Fld.keep (Fld.ext E118 (Fld.other W115 (Fld.keep (Fld.ext E110 (Fld.other W107 (Fld.keep (Fld.ext E102 D8) K104 (ninS (ne_exa c105 f104_0 (by decide)) nin0)) (Or.inr (slot_ne (Or.inl (hwk hw 97 rfl)) (Or.inr (hwk hw 34 rfl)) (by decide) (t := (.object "java/util/List")) (t' := (.object "java/util/List")) (by decide) (by decide))))) K112 (ninS (ne_exa c113 f112_0 (by decide)) nin0)) (Or.inr (slot_ne (Or.inl (hwk hw 97 rfl)) (Or.inr (hwk hw 36 rfl)) (by decide) (t := (.object "java/util/List")) (t' := (.object "java/util/List")) (by decide) (by decide))))) K120 (ninS (ne_exa c121 f120_0 (by decide)) nin0)) (Or.inr (slot_ne (Or.inl (hwk hw 97 rfl)) (Or.inr (hwk hw 54 rfl)) (by decide) (t := (.object "java/util/List")) (t' := (.object "java/util/Map")) (by decide) (by decide))))) K128 (ninS (ne_exa c129 f128_0 (by decide)) nin0)) (Or.inr (slot_ne (Or.inl (hwk hw 97 rfl)) (Or.inr (hwk hw 75 rfl)) (by decide) (t := (.object "java/util/List")) (t' := (.object "java/util/Set")) (by decide) (by decide))))) K136 (ninS (ne_exa c137 f136_0 (by decide)) nin0)) (Or.inr (slot_ne (Or.inl (hwk hw 97 rfl)) (Or.inr (hwk hw 77 rfl)) (by decide) (t := (.object "java/util/List")) (t' := (.object "java/util/Map")) (by decide) (by decide))))) K144 (ninS (ne_exa c145 f144_0 (by decide)) nin0)) (Or.inr (slot_ne (Or.inl (hwk hw 97 rfl)) (Or.inr (hwk hw 91 rfl)) (by decide) (t := (.object "java/util/List")) (t' := (.object "java/util/Deque")) (by decide) (by decide))))) K152 (ninS (ne_exa c153 f152_0 (by decide)) nin0)) (Or.inr (slot_ne (Or.inl (hwk hw 97 rfl)) (Or.inr (hwk hw 93 rfl)) (by decide) (t := (.object "java/util/List")) (t' := (.object "java/util/List")) (by decide) (by decide))))) K160 (ninS (ne_exa c161 f160_0 (by decide)) nin0)) (Or.inr (slot_ne (Or.inl (hwk hw 97 rfl)) (Or.inr (hwk hw 95 rfl)) (by decide) (t := (.object "java/util/List")) (t' := (.object "java/util/Deque")) (by decide) (by decide))))) K168 (ninS (ne_exa c169 f168_0 (by decide)) nin0))
  obtain ⟨T171, h171, X171, e171, W171, st171⟩ := putF X168 hx hZ hown (host := "") (Or.inl (hwk hw 96 rfl)) Via.refl (rfl : T168.heap = T168.heap) c170 c169 (Or.inl (hwk hw 97 rfl)) (hwk hw 1 rfl) (ty := (.object "java/util/List")) (by decide) rfl rfl (g := (mkF m 100 #[.val (.ref a1), .val (.int p1), .val (.int p2), .val (.int p3), .unset] [(.ref b166), (.ref a1)])) rfl rfl (hb hby d1_100)
  have F171 : Fld Z h171 a1 "com/example/fixlore/fixlore/lang/GraphBuilder" "pending" "Ljava/util/List;" (.ref b166) := Fld.same W171 c170
  have N171 := Fr.snoc X171 N168 g1
  have O173 : Old Z n0 T168.heap := Old.keep O167 K168 (allS g_b166 all0)
  have O174 : Old Z n0 h171 := Old.wr O173 W171 g1
  have c172 : Sta Z h171 "com/example/fixlore/fixlore/lang/SemanticGraph$Kind" "ENTRY" "Lcom/example/fixlore/fixlore/lang/SemanticGraph$Kind;" (.ref w_Kind_ENTRY) := Sta.ext (O174).2 S_Kind_ENTRY
  obtain ⟨T175, X175, e175, st175⟩ := getS2 X171 hx hZ hown (host := "") (Or.inl (hwk hw 98 rfl)) Via.refl e171 c172 (g := (mkF m 104 #[.val (.ref a1), .val (.int p1), .val (.int p2), .val (.int p3), .unset] [(.ref a1)])) rfl (hb hby d1_104)
  obtain ⟨a176, T176, h176, k176, X176, e176, E176, hS176, hk176, hZ176, hown176, st176⟩ := ldcS X175 hx hZ hown (hwk hw 101 rfl) hstr e175 hS0 (Nat.le_trans (Nat.le_refl _) (Nat.le_trans (Nat.le_trans (Nat.le_trans (Nat.le_trans (Nat.le_trans (Nat.le_trans (Nat.le_trans (Nat.le_trans (Nat.le_trans (Nat.le_trans (Nat.le_trans (Nat.le_trans (Nat.le_trans (Nat.le_trans (Nat.le_trans (Nat.le_trans (Nat.le_trans (Nat.le_trans (Nat.le_trans (Nat.le_trans (Nat.le_trans (Nat.le_trans (Nat.le_trans (Nat.le_trans (Nat.le_trans (Nat.le_trans (Nat.le_trans (Nat.le_refl _) E102.1) K104.1) (Nat.le_of_eq W107.size.symm)) E110.1) K112.1) (Nat.le_of_eq W115.size.symm)) E118.1) K120.1) (Nat.le_of_eq W123.size.symm)) E126.1) K128.1) (Nat.le_of_eq W131.size.symm)) E134.1) K136.1) (Nat.le_of_eq W139.size.symm)) E142.1) K144.1) (Nat.le_of_eq W147.size.symm)) E150.1) K152.1) (Nat.le_of_eq W155.size.symm)) E158.1) K160.1) (Nat.le_of_eq W163.size.symm)) E166.1) K168.1) (Nat.le_of_eq W171.size.symm))) (g := (mkF m 107 #[.val (.ref a1), .val (.int p1), .val (.int p2), .val (.int p3), .unset] [(.ref w_Kind_ENTRY), (.ref a1)])) rfl (hb hby d1_107) (n := 20) (by decide) (by decide) (by decide) (by decide)
  have c177 : Exa Z h176 a1 "com/example/fixlore/fixlore/lang/GraphBuilder" := (Exa.ext E176 (Exa.wr W171 c169))
  have c178 : Fld Z h176 a1 "com/example/fixlore/fixlore/lang/GraphBuilder" "openTryParts" "Ljava/util/Deque;" (.ref b158) := (Fld.ext E176 (Fld.other W171 (Fld.keep (Fld.ext E166 F163) K168 (ninS (ne_exa c169 f168_0 (by decide)) nin0)) (Or.inr (slot_ne (Or.inr (hwk hw 95 rfl)) (Or.inl (hwk hw 97 rfl)) (by decide) (t := (.object "java/util/Deque")) (t' := (.object "java/util/List")) (by decide) (by decide)))))
  have c179 : Fld Z h176 a1 "com/example/fixlore/fixlore/lang/GraphBuilder" "nodes" "Ljava/util/List;" (.ref b102) := (Fld.ext E176 (Fld.other W171 (Fld.keep (Fld.ext E166 (Fld.other W163 (Fld.keep (Fld.ext E158 (Fld.other W155 (Fld.keep (Fld.ext E150 (Fld.other W147 (Fld.keep (Fld.ext E142 (Fld.other W139 (Fld.keep (Fld.ext E134 (Fld.other W131 (Fld.keep (Fld.ext E126 (Fld.other W123 (Fld.keep (Fld.ext E118 (Fld.other W115 (Fld.keep (Fld.ext E110 F107) K112 (ninS (ne_exa c113 f112_0 (by decide)) nin0)) (Or.inr (slot_ne (Or.inr (hwk hw 34 rfl)) (Or.inr (hwk hw 36 rfl)) (by decide) (t := (.object "java/util/List")) (t' := (.object "java/util/List")) (by decide) (by decide))))) K120 (ninS (ne_exa c121 f120_0 (by decide)) nin0)) (Or.inr (slot_ne (Or.inr (hwk hw 34 rfl)) (Or.inr (hwk hw 54 rfl)) (by decide) (t := (.object "java/util/List")) (t' := (.object "java/util/Map")) (by decide) (by decide))))) K128 (ninS (ne_exa c129 f128_0 (by decide)) nin0)) (Or.inr (slot_ne (Or.inr (hwk hw 34 rfl)) (Or.inr (hwk hw 75 rfl)) (by decide) (t := (.object "java/util/List")) (t' := (.object "java/util/Set")) (by decide) (by decide))))) K136 (ninS (ne_exa c137 f136_0 (by decide)) nin0)) (Or.inr (slot_ne (Or.inr (hwk hw 34 rfl)) (Or.inr (hwk hw 77 rfl)) (by decide) (t := (.object "java/util/List")) (t' := (.object "java/util/Map")) (by decide) (by decide))))) K144 (ninS (ne_exa c145 f144_0 (by decide)) nin0)) (Or.inr (slot_ne (Or.inr (hwk hw 34 rfl)) (Or.inr (hwk hw 91 rfl)) (by decide) (t := (.object "java/util/List")) (t' := (.object "java/util/Deque")) (by decide) (by decide))))) K152 (ninS (ne_exa c153 f152_0 (by decide)) nin0)) (Or.inr (slot_ne (Or.inr (hwk hw 34 rfl)) (Or.inr (hwk hw 93 rfl)) (by decide) (t := (.object "java/util/List")) (t' := (.object "java/util/List")) (by decide) (by decide))))) K160 (ninS (ne_exa c161 f160_0 (by decide)) nin0)) (Or.inr (slot_ne (Or.inr (hwk hw 34 rfl)) (Or.inr (hwk hw 95 rfl)) (by decide) (t := (.object "java/util/List")) (t' := (.object "java/util/Deque")) (by decide) (by decide))))) K168 (ninS (ne_exa c169 f168_0 (by decide)) nin0)) (Or.inr (slot_ne (Or.inr (hwk hw 34 rfl)) (Or.inl (hwk hw 97 rfl)) (by decide) (t := (.object "java/util/List")) (t' := (.object "java/util/List")) (by decide) (by decide)))))
  have c180 : Exa Z h176 b158 "java/util/ArrayDeque" := (Exa.ext E176 (Exa.wr W171 (Exa.keep (Exa.ext E166 (Exa.wr W163 f160_0)) K168)))
  have c181 : Exa Z h163 b158 "java/util/ArrayDeque" := (Exa.wr W163 f160_0)
  have c182 : Fld Z h176 b158 "java/util/ArrayDeque" "head" "I" (.int (0 : Int32)) := (Fld.ext E176 (Fld.other W171 (Fld.keep (Fld.ext E166 (Fld.other W163 f160_1 (Or.inl (ne_exa f160_0 c161 (by decide))))) K168 (ninS (Nat.ne_of_lt (Nat.lt_of_lt_of_le (c181).lt (Nat.le_of_eq g166.symm))) nin0)) (Or.inl (ne_exa f160_0 c161 (by decide)))))
  have c183 : Fld Z h176 b158 "java/util/ArrayDeque" "tail" "I" (.int (0 : Int32)) := (Fld.ext E176 (Fld.other W171 (Fld.keep (Fld.ext E166 (Fld.other W163 f160_2 (Or.inl (ne_exa f160_0 c161 (by decide))))) K168 (ninS (Nat.ne_of_lt (Nat.lt_of_lt_of_le (c181).lt (Nat.le_of_eq g166.symm))) nin0)) (Or.inl (ne_exa f160_0 c161 (by decide)))))
  have c184 : Exa Z h176 b102 "java/util/ArrayList" := (Exa.ext E176 (Exa.wr W171 (Exa.keep (Exa.ext E166 (Exa.wr W163 (Exa.keep (Exa.ext E158 (Exa.wr W155 (Exa.keep (Exa.ext E150 (Exa.wr W147 (Exa.keep (Exa.ext E142 (Exa.wr W139 (Exa.keep (Exa.ext E134 (Exa.wr W131 (Exa.keep (Exa.ext E126 (Exa.wr W123 (Exa.keep (Exa.ext E118 (Exa.wr W115 (Exa.keep (Exa.ext E110 (Exa.wr W107 f104_0)) K112))) K120))) K128))) K136))) K144))) K152))) K160))) K168)))
  have c185 : Exa Z h107 b102 "java/util/ArrayList" := (Exa.wr W107 f104_0)
  have c186 : Exa Z h115 b102 "java/util/ArrayList" := (Exa.wr W115 (Exa.keep (Exa.ext E110 c185) K112))
  have c187 : Exa Z h123 b102 "java/util/ArrayList" := (Exa.wr W123 (Exa.keep (Exa.ext E118 c186) K120))
  have c188 : Exa Z h131 b102 "java/util/ArrayList" := (Exa.wr W131 (Exa.keep (Exa.ext E126 c187) K128))
  have c189 : Exa Z h139 b102 "java/util/ArrayList" := (Exa.wr W139 (Exa.keep (Exa.ext E134 c188) K136))
  have c190 : Exa Z h147 b102 "java/util/ArrayList" := (Exa.wr W147 (Exa.keep (Exa.ext E142 c189) K144))
  have c191 : Exa Z h163 b102 "java/util/ArrayList" := (Exa.wr W163 (Exa.keep (Exa.ext E158 (Exa.wr W155 (Exa.keep (Exa.ext E150 c190) K152))) K160))
  have c192 : Fld Z h176 b102 "java/util/ArrayList" "elementData" "[Ljava/lang/Object;" (.ref wd) := (Fld.ext E176 (Fld.other W171 (Fld.keep (Fld.ext E166 (Fld.other W163 (Fld.keep (Fld.ext E158 (Fld.other W155 (Fld.keep (Fld.ext E150 (Fld.other W147 (Fld.keep (Fld.ext E142 (Fld.other W139 (Fld.keep (Fld.ext E134 (Fld.other W131 (Fld.keep (Fld.ext E126 (Fld.other W123 (Fld.keep (Fld.ext E118 (Fld.other W115 (Fld.keep (Fld.ext E110 (Fld.other W107 f104_1 (Or.inl (ne_exa f104_0 c105 (by decide))))) K112 (ninS (Nat.ne_of_lt (Nat.lt_of_lt_of_le (c185).lt (Nat.le_of_eq g110.symm))) nin0)) (Or.inl (ne_exa f104_0 c105 (by decide))))) K120 (ninS (Nat.ne_of_lt (Nat.lt_of_lt_of_le (c186).lt (Nat.le_of_eq g118.symm))) nin0)) (Or.inl (ne_exa f104_0 c105 (by decide))))) K128 (ninS (Nat.ne_of_lt (Nat.lt_of_lt_of_le (c187).lt (Nat.le_of_eq g126.symm))) nin0)) (Or.inl (ne_exa f104_0 c105 (by decide))))) K136 (ninS (Nat.ne_of_lt (Nat.lt_of_lt_of_le (c188).lt (Nat.le_of_eq g134.symm))) nin0)) (Or.inl (ne_exa f104_0 c105 (by decide))))) K144 (ninS (Nat.ne_of_lt (Nat.lt_of_lt_of_le (c189).lt (Nat.le_of_eq g142.symm))) nin0)) (Or.inl (ne_exa f104_0 c105 (by decide))))) K152 (ninS (Nat.ne_of_lt (Nat.lt_of_lt_of_le (c190).lt (Nat.le_of_eq g150.symm))) nin0)) (Or.inl (ne_exa f104_0 c105 (by decide))))) K160 (ninS (ne_exa c184 c180 (by decide)) nin0)) (Or.inl (ne_exa f104_0 c105 (by decide))))) K168 (ninS (Nat.ne_of_lt (Nat.lt_of_lt_of_le (c191).lt (Nat.le_of_eq g166.symm))) nin0)) (Or.inl (ne_exa f104_0 c105 (by decide)))))
  have c193 : Fld Z h176 b102 "java/util/ArrayList" "size" "I" (.int (0 : Int32)) := (Fld.ext E176 (Fld.other W171 (Fld.keep (Fld.ext E166 (Fld.other W163 (Fld.keep (Fld.ext E158 (Fld.other W155 (Fld.keep (Fld.ext E150 (Fld.other W147 (Fld.keep (Fld.ext E142 (Fld.other W139 (Fld.keep (Fld.ext E134 (Fld.other W131 (Fld.keep (Fld.ext E126 (Fld.other W123 (Fld.keep (Fld.ext E118 (Fld.other W115 (Fld.keep (Fld.ext E110 (Fld.other W107 f104_2 (Or.inl (ne_exa f104_0 c105 (by decide))))) K112 (ninS (Nat.ne_of_lt (Nat.lt_of_lt_of_le (c185).lt (Nat.le_of_eq g110.symm))) nin0)) (Or.inl (ne_exa f104_0 c105 (by decide))))) K120 (ninS (Nat.ne_of_lt (Nat.lt_of_lt_of_le (c186).lt (Nat.le_of_eq g118.symm))) nin0)) (Or.inl (ne_exa f104_0 c105 (by decide))))) K128 (ninS (Nat.ne_of_lt (Nat.lt_of_lt_of_le (c187).lt (Nat.le_of_eq g126.symm))) nin0)) (Or.inl (ne_exa f104_0 c105 (by decide))))) K136 (ninS (Nat.ne_of_lt (Nat.lt_of_lt_of_le (c188).lt (Nat.le_of_eq g134.symm))) nin0)) (Or.inl (ne_exa f104_0 c105 (by decide))))) K144 (ninS (Nat.ne_of_lt (Nat.lt_of_lt_of_le (c189).lt (Nat.le_of_eq g142.symm))) nin0)) (Or.inl (ne_exa f104_0 c105 (by decide))))) K152 (ninS (Nat.ne_of_lt (Nat.lt_of_lt_of_le (c190).lt (Nat.le_of_eq g150.symm))) nin0)) (Or.inl (ne_exa f104_0 c105 (by decide))))) K160 (ninS (ne_exa c184 c180 (by decide)) nin0)) (Or.inl (ne_exa f104_0 c105 (by decide))))) K168 (ninS (Nat.ne_of_lt (Nat.lt_of_lt_of_le (c191).lt (Nat.le_of_eq g166.symm))) nin0)) (Or.inl (ne_exa f104_0 c105 (by decide)))))
  have c194 : Fld Z h176 b102 "java/util/AbstractList" "modCount" "I" (.int (0 : Int32)) := (Fld.ext E176 (Fld.other W171 (Fld.keep (Fld.ext E166 (Fld.other W163 (Fld.keep (Fld.ext E158 (Fld.other W155 (Fld.keep (Fld.ext E150 (Fld.other W147 (Fld.keep (Fld.ext E142 (Fld.other W139 (Fld.keep (Fld.ext E134 (Fld.other W131 (Fld.keep (Fld.ext E126 (Fld.other W123 (Fld.keep (Fld.ext E118 (Fld.other W115 (Fld.keep (Fld.ext E110 (Fld.other W107 f104_3 (Or.inl (ne_exa f104_0 c105 (by decide))))) K112 (ninS (Nat.ne_of_lt (Nat.lt_of_lt_of_le (c185).lt (Nat.le_of_eq g110.symm))) nin0)) (Or.inl (ne_exa f104_0 c105 (by decide))))) K120 (ninS (Nat.ne_of_lt (Nat.lt_of_lt_of_le (c186).lt (Nat.le_of_eq g118.symm))) nin0)) (Or.inl (ne_exa f104_0 c105 (by decide))))) K128 (ninS (Nat.ne_of_lt (Nat.lt_of_lt_of_le (c187).lt (Nat.le_of_eq g126.symm))) nin0)) (Or.inl (ne_exa f104_0 c105 (by decide))))) K136 (ninS (Nat.ne_of_lt (Nat.lt_of_lt_of_le (c188).lt (Nat.le_of_eq g134.symm))) nin0)) (Or.inl (ne_exa f104_0 c105 (by decide))))) K144 (ninS (Nat.ne_of_lt (Nat.lt_of_lt_of_le (c189).lt (Nat.le_of_eq g142.symm))) nin0)) (Or.inl (ne_exa f104_0 c105 (by decide))))) K152 (ninS (Nat.ne_of_lt (Nat.lt_of_lt_of_le (c190).lt (Nat.le_of_eq g150.symm))) nin0)) (Or.inl (ne_exa f104_0 c105 (by decide))))) K160 (ninS (ne_exa c184 c180 (by decide)) nin0)) (Or.inl (ne_exa f104_0 c105 (by decide))))) K168 (ninS (Nat.ne_of_lt (Nat.lt_of_lt_of_le (c191).lt (Nat.le_of_eq g166.symm))) nin0)) (Or.inl (ne_exa f104_0 c105 (by decide)))))
  have O195 : Old Z n0 h176 := Old.ext O174 E176
  obtain ⟨cq196, kq196, q196a, q196b, q196c⟩ := isOf hZ176 e176 c177
  obtain ⟨_, _, ⟨T196, L196, k196, n196⟩, -, X196, ⟨Lc196, hQ196, l196, y196, z196⟩, st196⟩ := X176.virtualBack hx (y := (⟨"com/example/fixlore/fixlore/lang/GraphBuilder", "add", "(Lcom/example/fixlore/fixlore/lang/SemanticGraph$Kind;Ljava/lang/String;II)I"⟩ : MethodName)) (z := (⟨"com/example/fixlore/fixlore/lang/GraphBuilder", "add", "(Lcom/example/fixlore/fixlore/lang/SemanticGraph$Kind;Ljava/lang/String;II)I"⟩ : MethodName)) hown176 (mvT hZ176 (hwk hw 109 rfl)) (mvT hZ176 (hwk hw 110 rfl)) (notFace_of_selects (args := #[]) (mvT hZ176 (hwk hw 112 rfl))) (mvT hZ176 (hwk hw 112 rfl)) (mvT hZ176 (hwk hw 111 rfl)) (by decide) (backOf (W := 0) (rm11_0 l Z a0 hw [] a1 w_Kind_ENTRY a176 p1 p2 b158 b102 (0 : Int32) wd kd vd h176 n0 O195 c177 c178 c179 c180 c182 c183 c184 c192 c193 c194 g_b102 (ne_exa c105 f104_0 (by decide)) (ne_exa c180 c184 (by decide)) SD VD) hZ176 (hwk hw 113 rfl) (hwk hw 2 rfl) (by decide) (by decide)) q196a q196c (g := (mkF m 111 #[.val (.ref a1), .val (.int p1), .val (.int p2), .val (.int p3), .unset] [(.int p2), (.int p1), (.ref a176), (.ref w_Kind_ENTRY), (.ref a1)])) rfl (by rw [hml]; rfl) (Steps.refl _) (argsL := [(.ref w_Kind_ENTRY), (.ref a176), (.int p1), (.int p2)]) (rest := []) (lenOf pd_16 rfl) rfl (by show 2 * 0 + _ ≤ _; exact Nat.le_of_eq rfl) (hb hby d1_111) (fun _ _ => ⟨rfl, e176, (by decide : 14 + 3 ≤ _), (by decide : 101 + 19 ≤ _)⟩)
  dsimp only [Pt.U, Pt.locs, Pt.cells, Pt.slots] at X196 l196 y196 z196 st196 hQ196
  subst l196 y196 z196
  unfold Q_rm11_0 at hQ196
  obtain ⟨e_196, t_196, k_196, rfl, N196q, K196, ge_e_196, ge_t_196, f196_0, f196_1, f196_2, f196_3, f196_4, f196_5, f196_6⟩ := hQ196
  have N196 := Fr.app N171 N196q
  have g_e_196 : n0 ≤ e_196 := Nat.le_trans (old_le O195) ge_e_196
  have g_t_196 : n0 ≤ t_196 := Nat.le_trans (old_le O195) ge_t_196
  have O198 : Old Z n0 T196.heap := Old.keep O195 K196 (allS g_b102 all0)
  have c197 : Sta Z T196.heap "com/example/fixlore/fixlore/lang/SemanticGraph$Kind" "EXIT" "Lcom/example/fixlore/fixlore/lang/SemanticGraph$Kind;" (.ref w_Kind_EXIT) := Sta.ext (O198).2 S_Kind_EXIT
  obtain ⟨T199, X199, e199, st199⟩ := getS2 X196 hx hZ176 hown176 (host := "") (Or.inl (hwk hw 190 rfl)) Via.refl (rfl : T196.heap = T196.heap) c197 (g := (mkF m 118 #[.val (.ref a1), .val (.int p1), .val (.int p2), .val (.int p3), .val (.int (0 : Int32))] [(.ref a1), (.ref a1)])) rfl (hb hby d1_118)
  obtain ⟨a200, T200, h200, k200, X200, e200, E200, hS200, hk200, hZ200, hown200, st200⟩ := ldcS X199 hx hZ176 hown176 (hwk hw 192 rfl) hstr e199 hS176 (Nat.le_trans hk176 (Nat.le_trans (Nat.le_refl _) K196.1)) (g := (mkF m 121 #[.val (.ref a1), .val (.int p1), .val (.int p2), .val (.int p3), .val (.int (0 : Int32))] [(.ref w_Kind_EXIT), (.ref a1), (.ref a1)])) rfl (hb hby d1_121) (n := 16) (by decide) (by decide) (by decide) (by decide)
  have c201 : Exa Z h200 a1 "com/example/fixlore/fixlore/lang/GraphBuilder" := (Exa.ext E200 (Exa.keep c177 K196))
  have c202 : Fld Z h200 a1 "com/example/fixlore/fixlore/lang/GraphBuilder" "openTryParts" "Ljava/util/Deque;" (.ref b158) := (Fld.ext E200 (Fld.keep c178 K196 (ninS (ne_exa c105 f104_0 (by decide)) nin0)))
  have c203 : Fld Z h200 a1 "com/example/fixlore/fixlore/lang/GraphBuilder" "nodes" "Ljava/util/List;" (.ref b102) := (Fld.ext E200 (Fld.keep c179 K196 (ninS (ne_exa c105 f104_0 (by decide)) nin0)))
  have c204 : Exa Z h200 b158 "java/util/ArrayDeque" := (Exa.ext E200 (Exa.keep c180 K196))
  have c205 : Fld Z h200 b158 "java/util/ArrayDeque" "head" "I" (.int (0 : Int32)) := (Fld.ext E200 (Fld.keep c182 K196 (ninS (ne_exa c180 c184 (by decide)) nin0)))
  have c206 : Fld Z h200 b158 "java/util/ArrayDeque" "tail" "I" (.int (0 : Int32)) := (Fld.ext E200 (Fld.keep c183 K196 (ninS (ne_exa c180 c184 (by decide)) nin0)))
  have c207 : Exa Z h200 b102 "java/util/ArrayList" := (Exa.ext E200 f196_0)
  have c208 : Fld Z h200 b102 "java/util/ArrayList" "elementData" "[Ljava/lang/Object;" (.ref t_196) := (Fld.ext E200 f196_1)
  have c209 : Fld Z h200 b102 "java/util/ArrayList" "size" "I" (.int (1 : Int32)) := (Fld.ext E200 f196_2)
  have c210 : Fld Z h200 b102 "java/util/AbstractList" "modCount" "I" (.int ((0 : Int32) + (1 : Int32))) := (Fld.ext E200 f196_3)
  have c211 : Arv Z h200 t_196 k_196 (.object "java/lang/Object") (10 : Int32) [(.ref e_196), .null, .null, .null, .null, .null, .null, .null, .null, .null] .null := (f196_4.ext E200)
  have O212 : Old Z n0 h200 := Old.ext O198 E200
  obtain ⟨cq213, kq213, q213a, q213b, q213c⟩ := isOf hZ200 e200 c201
  obtain ⟨_, _, ⟨T213, L213, k213, n213⟩, -, X213, ⟨Lc213, hQ213, l213, y213, z213⟩, st213⟩ := X200.virtualBack hx (y := (⟨"com/example/fixlore/fixlore/lang/GraphBuilder", "add", "(Lcom/example/fixlore/fixlore/lang/SemanticGraph$Kind;Ljava/lang/String;II)I"⟩ : MethodName)) (z := (⟨"com/example/fixlore/fixlore/lang/GraphBuilder", "add", "(Lcom/example/fixlore/fixlore/lang/SemanticGraph$Kind;Ljava/lang/String;II)I"⟩ : MethodName)) hown200 (mvT hZ200 (hwk hw 109 rfl)) (mvT hZ200 (hwk hw 110 rfl)) (notFace_of_selects (args := #[]) (mvT hZ200 (hwk hw 112 rfl))) (mvT hZ200 (hwk hw 112 rfl)) (mvT hZ200 (hwk hw 111 rfl)) (by decide) (backOf (W := 1) (rm11_1 l Z a0 hw [] a1 w_Kind_EXIT a200 p3 (1 : Int32) b158 b102 e_196 ((0 : Int32) + (1 : Int32)) wd kd vd t_196 k_196 h200 n0 O212 c201 c202 c203 c204 c205 c206 c207 c208 c209 c210 c211 f196_5 g_b102 (ne_exa c105 f104_0 (by decide)) (ne_exa c180 c184 (by decide)) SD VD g_t_196 f196_6 (Exa.neArv c201 c211 (hwk hw 1 rfl))) hZ200 (hwk hw 113 rfl) (hwk hw 2 rfl) (by decide) (by decide)) q213a q213c (g := (mkF m 125 #[.val (.ref a1), .val (.int p1), .val (.int p2), .val (.int p3), .val (.int (0 : Int32))] [(.int (1 : Int32)), (.int p3), (.ref a200), (.ref w_Kind_EXIT), (.ref a1), (.ref a1)])) rfl (by rw [hml]; rfl) (Steps.refl _) (argsL := [(.ref w_Kind_EXIT), (.ref a200), (.int p3), (.int (1 : Int32))]) (rest := [(.ref a1)]) (lenOf pd_16 rfl) rfl (by show 2 * 0 + _ ≤ _; exact Nat.le_of_eq rfl) (hb hby d1_125) (fun _ _ => ⟨rfl, e200, (by decide : 19 + 2 ≤ _), (by decide : 140 + 9 ≤ _)⟩)
  dsimp only [Pt.U, Pt.locs, Pt.cells, Pt.slots] at X213 l213 y213 z213 st213 hQ213
  subst l213 y213 z213
  unfold Q_rm11_1 at hQ213
  obtain ⟨e_213, rfl, N213q, K213, ge_e_213, f213_0, f213_1, f213_2, f213_3, f213_4, f213_5⟩ := hQ213
  have N213 := Fr.app N196 N213q
  have g_e_213 : n0 ≤ e_213 := Nat.le_trans (old_le O212) ge_e_213
  have c214 : Exa Z T213.heap a1 "com/example/fixlore/fixlore/lang/GraphBuilder" := (Exa.keep c201 K213)
  have c215 : Fld Z T213.heap a1 "com/example/fixlore/fixlore/lang/GraphBuilder" "exit" "I" (.int (0 : Int32)) := (Fld.keep (Fld.ext E200 (Fld.keep (Fld.ext E176 (Fld.other W171 (Fld.keep (Fld.ext E166 (Fld.other W163 (Fld.keep (Fld.ext E158 (Fld.other W155 (Fld.keep (Fld.ext E150 (Fld.other W147 (Fld.keep (Fld.ext E142 (Fld.other W139 (Fld.keep (Fld.ext E134 (Fld.other W131 (Fld.keep (Fld.ext E126 (Fld.other W123 (Fld.keep (Fld.ext E118 (Fld.other W115 (Fld.keep (Fld.ext E110 (Fld.other W107 (Fld.keep (Fld.ext E102 D9) K104 (ninS (ne_exa c105 f104_0 (by decide)) nin0)) (Or.inr (slot_ne (Or.inr (hwk hw 194 rfl)) (Or.inr (hwk hw 34 rfl)) (by decide) (t := .int) (t' := (.object "java/util/List")) (by decide) (by decide))))) K112 (ninS (ne_exa c113 f112_0 (by decide)) nin0)) (Or.inr (slot_ne (Or.inr (hwk hw 194 rfl)) (Or.inr (hwk hw 36 rfl)) (by decide) (t := .int) (t' := (.object "java/util/List")) (by decide) (by decide))))) K120 (ninS (ne_exa c121 f120_0 (by decide)) nin0)) (Or.inr (slot_ne (Or.inr (hwk hw 194 rfl)) (Or.inr (hwk hw 54 rfl)) (by decide) (t := .int) (t' := (.object "java/util/Map")) (by decide) (by decide))))) K128 (ninS (ne_exa c129 f128_0 (by decide)) nin0)) (Or.inr (slot_ne (Or.inr (hwk hw 194 rfl)) (Or.inr (hwk hw 75 rfl)) (by decide) (t := .int) (t' := (.object "java/util/Set")) (by decide) (by decide))))) K136 (ninS (ne_exa c137 f136_0 (by decide)) nin0)) (Or.inr (slot_ne (Or.inr (hwk hw 194 rfl)) (Or.inr (hwk hw 77 rfl)) (by decide) (t := .int) (t' := (.object "java/util/Map")) (by decide) (by decide))))) K144 (ninS (ne_exa c145 f144_0 (by decide)) nin0)) (Or.inr (slot_ne (Or.inr (hwk hw 194 rfl)) (Or.inr (hwk hw 91 rfl)) (by decide) (t := .int) (t' := (.object "java/util/Deque")) (by decide) (by decide))))) K152 (ninS (ne_exa c153 f152_0 (by decide)) nin0)) (Or.inr (slot_ne (Or.inr (hwk hw 194 rfl)) (Or.inr (hwk hw 93 rfl)) (by decide) (t := .int) (t' := (.object "java/util/List")) (by decide) (by decide))))) K160 (ninS (ne_exa c161 f160_0 (by decide)) nin0)) (Or.inr (slot_ne (Or.inr (hwk hw 194 rfl)) (Or.inr (hwk hw 95 rfl)) (by decide) (t := .int) (t' := (.object "java/util/Deque")) (by decide) (by decide))))) K168 (ninS (ne_exa c169 f168_0 (by decide)) nin0)) (Or.inr (slot_ne (Or.inr (hwk hw 194 rfl)) (Or.inl (hwk hw 97 rfl)) (by decide) (t := .int) (t' := (.object "java/util/List")) (by decide) (by decide))))) K196 (ninS (ne_exa c105 f104_0 (by decide)) nin0))) K213 (ninS (ne_exa c105 f104_0 (by decide)) (ninS (Exa.neArv c214 f213_4 (hwk hw 1 rfl)) nin0)))
  obtain ⟨T216, h216, X216, e216, W216, st216⟩ := putF X213 hx hZ200 hown200 (host := "") (Or.inl (hwk hw 193 rfl)) Via.refl (rfl : T213.heap = T213.heap) c215 c214 (Or.inr ⟨(hwk hw 194 rfl), rfl, hnm⟩) (hwk hw 1 rfl) (ty := .int) (by decide) rfl rfl (g := (mkF m 128 #[.val (.ref a1), .val (.int p1), .val (.int p2), .val (.int p3), .val (.int (0 : Int32))] [(.int (1 : Int32)), (.ref a1)])) rfl rfl (hb hby d1_128)
  have F216 : Fld Z h216 a1 "com/example/fixlore/fixlore/lang/GraphBuilder" "exit" "I" (.int (1 : Int32)) := Fld.same W216 c215
  have N216 := Fr.snoc X216 N213 g1
  have c217 : Exa Z h216 a1 "com/example/fixlore/fixlore/lang/GraphBuilder" := (Exa.wr W216 c214)
  have c218 : Fld Z h216 a1 "com/example/fixlore/fixlore/lang/GraphBuilder" "pending" "Ljava/util/List;" (.ref b166) := (Fld.other W216 (Fld.keep (Fld.ext E200 (Fld.keep (Fld.ext E176 F171) K196 (ninS (ne_exa c105 f104_0 (by decide)) nin0))) K213 (ninS (ne_exa c105 f104_0 (by decide)) (ninS (Exa.neArv c214 f213_4 (hwk hw 1 rfl)) nin0))) (Or.inr (slot_ne (Or.inl (hwk hw 97 rfl)) (Or.inr (hwk hw 194 rfl)) (by decide) (t := (.object "java/util/List")) (t' := .int) (by decide) (by decide))))
  have O219 : Old Z n0 T213.heap := Old.keep O212 K213 (allS g_b102 (allS g_t_196 all0))
  have O220 : Old Z n0 h216 := Old.wr O219 W216 g1
  obtain ⟨cq221, kq221, q221a, q221b, q221c⟩ := isOf hZ200 e216 c217
  obtain ⟨_, _, ⟨T221, L221, k221, n221⟩, -, X221, ⟨Lc221, hQ221, l221, y221, z221⟩, st221⟩ := X216.virtualBack hx (y := (⟨"com/example/fixlore/fixlore/lang/GraphBuilder", "follow", "(ILjava/lang/String;)V"⟩ : MethodName)) (z := (⟨"com/example/fixlore/fixlore/lang/GraphBuilder", "follow", "(ILjava/lang/String;)V"⟩ : MethodName)) hown200 (mvT hZ200 (hwk hw 195 rfl)) (mvT hZ200 (hwk hw 196 rfl)) (notFace_of_selects (args := #[]) (mvT hZ200 (hwk hw 198 rfl))) (mvT hZ200 (hwk hw 198 rfl)) (mvT hZ200 (hwk hw 197 rfl)) (by decide) (backOf (W := 0) (rm20 l Z a0 hw [] a1 (0 : Int32) (.ref b166) wd kd vd h216 n0 O220 c217 g1 c218 SD VD) hZ200 (hwk hw 199 rfl) (hwk hw 2 rfl) (by decide) (by decide)) q221a q221c (g := (mkF m 135 #[.val (.ref a1), .val (.int p1), .val (.int p2), .val (.int p3), .val (.int (0 : Int32))] [.null, (.int (0 : Int32)), (.ref a1)])) rfl (by rw [hml]; rfl) (Steps.refl _) (argsL := [(.int (0 : Int32)), .null]) (rest := []) (lenOf pd_9 rfl) rfl (by show 2 * 0 + _ ≤ _; exact Nat.le_of_eq rfl) (hb hby d1_135) (fun _ _ => ⟨rfl, e216, (by decide : 21 + 3 ≤ _), (by decide : 149 + 15 ≤ _)⟩)
  dsimp only [Pt.U, Pt.locs, Pt.cells, Pt.slots] at X221 l221 y221 z221 st221 hQ221
  subst l221 y221 z221
  unfold Q_rm20 at hQ221
  obtain ⟨l_221, e_221, t_221, k_221, rfl, N221q, K221, ge_l_221, ge_e_221, ge_t_221, f221_0, f221_1, f221_2, f221_3, f221_4, f221_5, f221_6, f221_7, f221_8, f221_9, f221_10, f221_11⟩ := hQ221
  have N221 := Fr.app N216 N221q
  have g_l_221 : n0 ≤ l_221 := Nat.le_trans (old_le O220) ge_l_221
  have g_e_221 : n0 ≤ e_221 := Nat.le_trans (old_le O220) ge_e_221
  have g_t_221 : n0 ≤ t_221 := Nat.le_trans (old_le O220) ge_t_221
  have K222 : Keep h0 h102 [a1] := Keep.ext (Keep.refl h0 [a1]) E102
  have K223 : Keep h0 T104.heap [a1] := Keep.trans K222 K104 (allS (Or.inr (Nat.le_trans (Nat.le_refl _) (Nat.le_of_eq g102.symm))) all0)
  have K224 : Keep h0 h107 [a1] := Keep.wr K223 W107 (Or.inl (List.mem_of_getElem? (i := 0) rfl))
  have K225 : Keep h0 h110 [a1] := Keep.ext K224 E110
  have K226 : Keep h0 T112.heap [a1] := Keep.trans K225 K112 (allS (Or.inr (Nat.le_trans (Nat.le_trans (Nat.le_trans (Nat.le_trans (Nat.le_refl _) E102.1) K104.1) (Nat.le_of_eq W107.size.symm)) (Nat.le_of_eq g110.symm))) all0)
  have K227 : Keep h0 h115 [a1] := Keep.wr K226 W115 (Or.inl (List.mem_of_getElem? (i := 0) rfl))
  have K228 : Keep h0 h118 [a1] := Keep.ext K227 E118
  have K229 : Keep h0 T120.heap [a1] := Keep.trans K228 K120 (allS (Or.inr (Nat.le_trans (Nat.le_trans (Nat.le_trans (Nat.le_trans (Nat.le_trans (Nat.le_trans (Nat.le_trans (Nat.le_refl _) E102.1) K104.1) (Nat.le_of_eq W107.size.symm)) E110.1) K112.1) (Nat.le_of_eq W115.size.symm)) (Nat.le_of_eq g118.symm))) all0)
  have K230 : Keep h0 h123 [a1] := Keep.wr K229 W123 (Or.inl (List.mem_of_getElem? (i := 0) rfl))
  have K231 : Keep h0 h126 [a1] := Keep.ext K230 E126
  have K232 : Keep h0 T128.heap [a1] := Keep.trans K231 K128 (allS (Or.inr (Nat.le_trans (Nat.le_trans (Nat.le_trans (Nat.le_trans (Nat.le_trans (Nat.le_trans (Nat.le_trans (Nat.le_trans (Nat.le_trans (Nat.le_trans (Nat.le_refl _) E102.1) K104.1) (Nat.le_of_eq W107.size.symm)) E110.1) K112.1) (Nat.le_of_eq W115.size.symm)) E118.1) K120.1) (Nat.le_of_eq W123.size.symm)) (Nat.le_of_eq g126.symm))) all0)
  have K233 : Keep h0 h131 [a1] := Keep.wr K232 W131 (Or.inl (List.mem_of_getElem? (i := 0) rfl))
  have K234 : Keep h0 h134 [a1] := Keep.ext K233 E134
  have K235 : Keep h0 T136.heap [a1] := Keep.trans K234 K136 (allS (Or.inr (Nat.le_trans (Nat.le_trans (Nat.le_trans (Nat.le_trans (Nat.le_trans (Nat.le_trans (Nat.le_trans (Nat.le_trans (Nat.le_trans (Nat.le_trans (Nat.le_trans (Nat.le_trans (Nat.le_trans (Nat.le_refl _) E102.1) K104.1) (Nat.le_of_eq W107.size.symm)) E110.1) K112.1) (Nat.le_of_eq W115.size.symm)) E118.1) K120.1) (Nat.le_of_eq W123.size.symm)) E126.1) K128.1) (Nat.le_of_eq W131.size.symm)) (Nat.le_of_eq g134.symm))) all0)
  have K236 : Keep h0 h139 [a1] := Keep.wr K235 W139 (Or.inl (List.mem_of_getElem? (i := 0) rfl))
  have K237 : Keep h0 h142 [a1] := Keep.ext K236 E142
  have K238 : Keep h0 T144.heap [a1] := Keep.trans K237 K144 (allS (Or.inr (Nat.le_trans (Nat.le_trans (Nat.le_trans (Nat.le_trans (Nat.le_trans (Nat.le_trans (Nat.le_trans (Nat.le_trans (Nat.le_trans (Nat.le_trans (Nat.le_trans (Nat.le_trans (Nat.le_trans (Nat.le_trans (Nat.le_trans (Nat.le_trans (Nat.le_refl _) E102.1) K104.1) (Nat.le_of_eq W107.size.symm)) E110.1) K112.1) (Nat.le_of_eq W115.size.symm)) E118.1) K120.1) (Nat.le_of_eq W123.size.symm)) E126.1) K128.1) (Nat.le_of_eq W131.size.symm)) E134.1) K136.1) (Nat.le_of_eq W139.size.symm)) (Nat.le_of_eq g142.symm))) all0)
  have K239 : Keep h0 h147 [a1] := Keep.wr K238 W147 (Or.inl (List.mem_of_getElem? (i := 0) rfl))
  have K240 : Keep h0 h150 [a1] := Keep.ext K239 E150
  have K241 : Keep h0 T152.heap [a1] := Keep.trans K240 K152 (allS (Or.inr (Nat.le_trans (Nat.le_trans (Nat.le_trans (Nat.le_trans (Nat.le_trans (Nat.le_trans (Nat.le_trans (Nat.le_trans (Nat.le_trans (Nat.le_trans (Nat.le_trans (Nat.le_trans (Nat.le_trans (Nat.le_trans (Nat.le_trans (Nat.le_trans (Nat.le_trans (Nat.le_trans (Nat.le_trans (Nat.le_refl _) E102.1) K104.1) (Nat.le_of_eq W107.size.symm)) E110.1) K112.1) (Nat.le_of_eq W115.size.symm)) E118.1) K120.1) (Nat.le_of_eq W123.size.symm)) E126.1) K128.1) (Nat.le_of_eq W131.size.symm)) E134.1) K136.1) (Nat.le_of_eq W139.size.symm)) E142.1) K144.1) (Nat.le_of_eq W147.size.symm)) (Nat.le_of_eq g150.symm))) all0)
  have K242 : Keep h0 h155 [a1] := Keep.wr K241 W155 (Or.inl (List.mem_of_getElem? (i := 0) rfl))
  have K243 : Keep h0 h158 [a1] := Keep.ext K242 E158
  have K244 : Keep h0 T160.heap [a1] := Keep.trans K243 K160 (allS (Or.inr (Nat.le_trans (Nat.le_trans (Nat.le_trans (Nat.le_trans (Nat.le_trans (Nat.le_trans (Nat.le_trans (Nat.le_trans (Nat.le_trans (Nat.le_trans (Nat.le_trans (Nat.le_trans (Nat.le_trans (Nat.le_trans (Nat.le_trans (Nat.le_trans (Nat.le_trans (Nat.le_trans (Nat.le_trans (Nat.le_trans (Nat.le_trans (Nat.le_trans (Nat.le_refl _) E102.1) K104.1) (Nat.le_of_eq W107.size.symm)) E110.1) K112.1) (Nat.le_of_eq W115.size.symm)) E118.1) K120.1) (Nat.le_of_eq W123.size.symm)) E126.1) K128.1) (Nat.le_of_eq W131.size.symm)) E134.1) K136.1) (Nat.le_of_eq W139.size.symm)) E142.1) K144.1) (Nat.le_of_eq W147.size.symm)) E150.1) K152.1) (Nat.le_of_eq W155.size.symm)) (Nat.le_of_eq g158.symm))) all0)
  have K245 : Keep h0 h163 [a1] := Keep.wr K244 W163 (Or.inl (List.mem_of_getElem? (i := 0) rfl))
  have K246 : Keep h0 h166 [a1] := Keep.ext K245 E166
  have K247 : Keep h0 T168.heap [a1] := Keep.trans K246 K168 (allS (Or.inr (Nat.le_trans (Nat.le_trans (Nat.le_trans (Nat.le_trans (Nat.le_trans (Nat.le_trans (Nat.le_trans (Nat.le_trans (Nat.le_trans (Nat.le_trans (Nat.le_trans (Nat.le_trans (Nat.le_trans (Nat.le_trans (Nat.le_trans (Nat.le_trans (Nat.le_trans (Nat.le_trans (Nat.le_trans (Nat.le_trans (Nat.le_trans (Nat.le_trans (Nat.le_trans (Nat.le_trans (Nat.le_trans (Nat.le_refl _) E102.1) K104.1) (Nat.le_of_eq W107.size.symm)) E110.1) K112.1) (Nat.le_of_eq W115.size.symm)) E118.1) K120.1) (Nat.le_of_eq W123.size.symm)) E126.1) K128.1) (Nat.le_of_eq W131.size.symm)) E134.1) K136.1) (Nat.le_of_eq W139.size.symm)) E142.1) K144.1) (Nat.le_of_eq W147.size.symm)) E150.1) K152.1) (Nat.le_of_eq W155.size.symm)) E158.1) K160.1) (Nat.le_of_eq W163.size.symm)) (Nat.le_of_eq g166.symm))) all0)
  have K248 : Keep h0 h171 [a1] := Keep.wr K247 W171 (Or.inl (List.mem_of_getElem? (i := 0) rfl))
  have K249 : Keep h0 h176 [a1] := Keep.ext K248 E176
  have K250 : Keep h0 T196.heap [a1] := Keep.trans K249 K196 (allS (Or.inr (Nat.le_trans (Nat.le_refl _) (Nat.le_of_eq g102.symm))) all0)
  have K251 : Keep h0 h200 [a1] := Keep.ext K250 E200
  have K252 : Keep h0 T213.heap [a1] := Keep.trans K251 K213 (allS (Or.inr (Nat.le_trans (Nat.le_refl _) (Nat.le_of_eq g102.symm))) (allS (Or.inr (Nat.le_trans (Nat.le_trans (Nat.le_trans (Nat.le_trans (Nat.le_trans (Nat.le_trans (Nat.le_trans (Nat.le_trans (Nat.le_trans (Nat.le_trans (Nat.le_trans (Nat.le_trans (Nat.le_trans (Nat.le_trans (Nat.le_trans (Nat.le_trans (Nat.le_trans (Nat.le_trans (Nat.le_trans (Nat.le_trans (Nat.le_trans (Nat.le_trans (Nat.le_trans (Nat.le_trans (Nat.le_trans (Nat.le_trans (Nat.le_trans (Nat.le_trans (Nat.le_trans (Nat.le_refl _) E102.1) K104.1) (Nat.le_of_eq W107.size.symm)) E110.1) K112.1) (Nat.le_of_eq W115.size.symm)) E118.1) K120.1) (Nat.le_of_eq W123.size.symm)) E126.1) K128.1) (Nat.le_of_eq W131.size.symm)) E134.1) K136.1) (Nat.le_of_eq W139.size.symm)) E142.1) K144.1) (Nat.le_of_eq W147.size.symm)) E150.1) K152.1) (Nat.le_of_eq W155.size.symm)) E158.1) K160.1) (Nat.le_of_eq W163.size.symm)) E166.1) K168.1) (Nat.le_of_eq W171.size.symm)) E176.1) ge_t_196)) all0))
  have K253 : Keep h0 h216 [a1] := Keep.wr K252 W216 (Or.inl (List.mem_of_getElem? (i := 0) rfl))
  have K254 : Keep h0 T221.heap [a1] := Keep.trans K253 K221 (allS (Or.inl (List.mem_of_getElem? (i := 0) rfl)) all0)
  obtain ⟨fs, hr, hrun, hended, hRE⟩ := X221.leaveW hS200 (show _ ≤ T221.heap.size from by rw [(rfl : T221.heap = T221.heap)]; exact (Nat.le_trans hk200 (Nat.le_trans (Nat.le_trans (Nat.le_trans (Nat.le_refl _) K213.1) (Nat.le_of_eq W216.size.symm)) K221.1))) (v := none) (fun _ => rfl)
  refine ⟨_, _, pre0 _ ?_, hrun, hended, _, _, rfl, ?_, hRE.1, hRE.2.1, hRE.2.2.1, hRE.2.2.2.mono (by decide) (by decide)⟩
  · show Steps p.tables e below (s₁.setTop (mkF m 0 #[.val (.ref a1), .val (.int p1), .val (.int p2), .val (.int p3), .unset] [])) _
    refine XS.aloadN X0.here hx rfl (hb hby d1_0) rfl rfl ?_
    show Steps p.tables e below (s₁.setTop (mkF m 1 #[.val (.ref a1), .val (.int p1), .val (.int p2), .val (.int p3), .unset] [(.ref a1)])) _
    refine st101 _ ?_
    show Steps p.tables e below (T101.setTop (mkF m 4 #[.val (.ref a1), .val (.int p1), .val (.int p2), .val (.int p3), .unset] [])) _
    refine XS.aloadN X101.here hx rfl (hb hby d1_4) rfl rfl ?_
    show Steps p.tables e below (T101.setTop (mkF m 5 #[.val (.ref a1), .val (.int p1), .val (.int p2), .val (.int p3), .unset] [(.ref a1)])) _
    refine st102 _ ?_
    show Steps p.tables e below (T102.setTop (mkF m 8 #[.val (.ref a1), .val (.int p1), .val (.int p2), .val (.int p3), .unset] [(.ref b102), (.ref a1)])) _
    refine XS.dup X102.here hx rfl (hb hby d1_8) rfl rfl ?_
    show Steps p.tables e below (T102.setTop (mkF m 9 #[.val (.ref a1), .val (.int p1), .val (.int p2), .val (.int p3), .unset] [(.ref b102), (.ref b102), (.ref a1)])) _
    refine st104.trans ?_
    show Steps p.tables e below (T104.setTop (mkF m 12 #[.val (.ref a1), .val (.int p1), .val (.int p2), .val (.int p3), .unset] [(.ref b102), (.ref a1)])) _
    refine st107 _ ?_
    show Steps p.tables e below (T107.setTop (mkF m 15 #[.val (.ref a1), .val (.int p1), .val (.int p2), .val (.int p3), .unset] [])) _
    refine XS.aloadN X107.here hx rfl (hb hby d1_15) rfl rfl ?_
    show Steps p.tables e below (T107.setTop (mkF m 16 #[.val (.ref a1), .val (.int p1), .val (.int p2), .val (.int p3), .unset] [(.ref a1)])) _
    refine st110 _ ?_
    show Steps p.tables e below (T110.setTop (mkF m 19 #[.val (.ref a1), .val (.int p1), .val (.int p2), .val (.int p3), .unset] [(.ref b110), (.ref a1)])) _
    refine XS.dup X110.here hx rfl (hb hby d1_19) rfl rfl ?_
    show Steps p.tables e below (T110.setTop (mkF m 20 #[.val (.ref a1), .val (.int p1), .val (.int p2), .val (.int p3), .unset] [(.ref b110), (.ref b110), (.ref a1)])) _
    refine st112.trans ?_
    show Steps p.tables e below (T112.setTop (mkF m 23 #[.val (.ref a1), .val (.int p1), .val (.int p2), .val (.int p3), .unset] [(.ref b110), (.ref a1)])) _
    refine st115 _ ?_
    show Steps p.tables e below (T115.setTop (mkF m 26 #[.val (.ref a1), .val (.int p1), .val (.int p2), .val (.int p3), .unset] [])) _
    refine XS.aloadN X115.here hx rfl (hb hby d1_26) rfl rfl ?_
    show Steps p.tables e below (T115.setTop (mkF m 27 #[.val (.ref a1), .val (.int p1), .val (.int p2), .val (.int p3), .unset] [(.ref a1)])) _
    refine st118 _ ?_
    show Steps p.tables e below (T118.setTop (mkF m 30 #[.val (.ref a1), .val (.int p1), .val (.int p2), .val (.int p3), .unset] [(.ref b118), (.ref a1)])) _
    refine XS.dup X118.here hx rfl (hb hby d1_30) rfl rfl ?_
    show Steps p.tables e below (T118.setTop (mkF m 31 #[.val (.ref a1), .val (.int p1), .val (.int p2), .val (.int p3), .unset] [(.ref b118), (.ref b118), (.ref a1)])) _
    refine st120.trans ?_
    show Steps p.tables e below (T120.setTop (mkF m 34 #[.val (.ref a1), .val (.int p1), .val (.int p2), .val (.int p3), .unset] [(.ref b118), (.ref a1)])) _
    refine st123 _ ?_
    show Steps p.tables e below (T123.setTop (mkF m 37 #[.val (.ref a1), .val (.int p1), .val (.int p2), .val (.int p3), .unset] [])) _
    refine XS.aloadN X123.here hx rfl (hb hby d1_37) rfl rfl ?_
    show Steps p.tables e below (T123.setTop (mkF m 38 #[.val (.ref a1), .val (.int p1), .val (.int p2), .val (.int p3), .unset] [(.ref a1)])) _
    refine st126 _ ?_
    show Steps p.tables e below (T126.setTop (mkF m 41 #[.val (.ref a1), .val (.int p1), .val (.int p2), .val (.int p3), .unset] [(.ref b126), (.ref a1)])) _
    refine XS.dup X126.here hx rfl (hb hby d1_41) rfl rfl ?_
    show Steps p.tables e below (T126.setTop (mkF m 42 #[.val (.ref a1), .val (.int p1), .val (.int p2), .val (.int p3), .unset] [(.ref b126), (.ref b126), (.ref a1)])) _
    refine st128.trans ?_
    show Steps p.tables e below (T128.setTop (mkF m 45 #[.val (.ref a1), .val (.int p1), .val (.int p2), .val (.int p3), .unset] [(.ref b126), (.ref a1)])) _
    refine st131 _ ?_
    show Steps p.tables e below (T131.setTop (mkF m 48 #[.val (.ref a1), .val (.int p1), .val (.int p2), .val (.int p3), .unset] [])) _
    refine XS.aloadN X131.here hx rfl (hb hby d1_48) rfl rfl ?_
    show Steps p.tables e below (T131.setTop (mkF m 49 #[.val (.ref a1), .val (.int p1), .val (.int p2), .val (.int p3), .unset] [(.ref a1)])) _
    refine st134 _ ?_
    show Steps p.tables e below (T134.setTop (mkF m 52 #[.val (.ref a1), .val (.int p1), .val (.int p2), .val (.int p3), .unset] [(.ref b134), (.ref a1)])) _
    refine XS.dup X134.here hx rfl (hb hby d1_52) rfl rfl ?_
    show Steps p.tables e below (T134.setTop (mkF m 53 #[.val (.ref a1), .val (.int p1), .val (.int p2), .val (.int p3), .unset] [(.ref b134), (.ref b134), (.ref a1)])) _
    refine st136.trans ?_
    show Steps p.tables e below (T136.setTop (mkF m 56 #[.val (.ref a1), .val (.int p1), .val (.int p2), .val (.int p3), .unset] [(.ref b134), (.ref a1)])) _
    refine st139 _ ?_
    show Steps p.tables e below (T139.setTop (mkF m 59 #[.val (.ref a1), .val (.int p1), .val (.int p2), .val (.int p3), .unset] [])) _
    refine XS.aloadN X139.here hx rfl (hb hby d1_59) rfl rfl ?_
    show Steps p.tables e below (T139.setTop (mkF m 60 #[.val (.ref a1), .val (.int p1), .val (.int p2), .val (.int p3), .unset] [(.ref a1)])) _
    refine st142 _ ?_
    show Steps p.tables e below (T142.setTop (mkF m 63 #[.val (.ref a1), .val (.int p1), .val (.int p2), .val (.int p3), .unset] [(.ref b142), (.ref a1)])) _
    refine XS.dup X142.here hx rfl (hb hby d1_63) rfl rfl ?_
    show Steps p.tables e below (T142.setTop (mkF m 64 #[.val (.ref a1), .val (.int p1), .val (.int p2), .val (.int p3), .unset] [(.ref b142), (.ref b142), (.ref a1)])) _
    refine st144.trans ?_
    show Steps p.tables e below (T144.setTop (mkF m 67 #[.val (.ref a1), .val (.int p1), .val (.int p2), .val (.int p3), .unset] [(.ref b142), (.ref a1)])) _
    refine st147 _ ?_
    show Steps p.tables e below (T147.setTop (mkF m 70 #[.val (.ref a1), .val (.int p1), .val (.int p2), .val (.int p3), .unset] [])) _
    refine XS.aloadN X147.here hx rfl (hb hby d1_70) rfl rfl ?_
    show Steps p.tables e below (T147.setTop (mkF m 71 #[.val (.ref a1), .val (.int p1), .val (.int p2), .val (.int p3), .unset] [(.ref a1)])) _
    refine st150 _ ?_
    show Steps p.tables e below (T150.setTop (mkF m 74 #[.val (.ref a1), .val (.int p1), .val (.int p2), .val (.int p3), .unset] [(.ref b150), (.ref a1)])) _
    refine XS.dup X150.here hx rfl (hb hby d1_74) rfl rfl ?_
    show Steps p.tables e below (T150.setTop (mkF m 75 #[.val (.ref a1), .val (.int p1), .val (.int p2), .val (.int p3), .unset] [(.ref b150), (.ref b150), (.ref a1)])) _
    refine st152.trans ?_
    show Steps p.tables e below (T152.setTop (mkF m 78 #[.val (.ref a1), .val (.int p1), .val (.int p2), .val (.int p3), .unset] [(.ref b150), (.ref a1)])) _
    refine st155 _ ?_
    show Steps p.tables e below (T155.setTop (mkF m 81 #[.val (.ref a1), .val (.int p1), .val (.int p2), .val (.int p3), .unset] [])) _
    refine XS.aloadN X155.here hx rfl (hb hby d1_81) rfl rfl ?_
    show Steps p.tables e below (T155.setTop (mkF m 82 #[.val (.ref a1), .val (.int p1), .val (.int p2), .val (.int p3), .unset] [(.ref a1)])) _
    refine st158 _ ?_
    show Steps p.tables e below (T158.setTop (mkF m 85 #[.val (.ref a1), .val (.int p1), .val (.int p2), .val (.int p3), .unset] [(.ref b158), (.ref a1)])) _
    refine XS.dup X158.here hx rfl (hb hby d1_85) rfl rfl ?_
    show Steps p.tables e below (T158.setTop (mkF m 86 #[.val (.ref a1), .val (.int p1), .val (.int p2), .val (.int p3), .unset] [(.ref b158), (.ref b158), (.ref a1)])) _
    refine st160.trans ?_
    show Steps p.tables e below (T160.setTop (mkF m 89 #[.val (.ref a1), .val (.int p1), .val (.int p2), .val (.int p3), .unset] [(.ref b158), (.ref a1)])) _
    refine st163 _ ?_
    show Steps p.tables e below (T163.setTop (mkF m 92 #[.val (.ref a1), .val (.int p1), .val (.int p2), .val (.int p3), .unset] [])) _
    refine XS.aloadN X163.here hx rfl (hb hby d1_92) rfl rfl ?_
    show Steps p.tables e below (T163.setTop (mkF m 93 #[.val (.ref a1), .val (.int p1), .val (.int p2), .val (.int p3), .unset] [(.ref a1)])) _
    refine st166 _ ?_
    show Steps p.tables e below (T166.setTop (mkF m 96 #[.val (.ref a1), .val (.int p1), .val (.int p2), .val (.int p3), .unset] [(.ref b166), (.ref a1)])) _
    refine XS.dup X166.here hx rfl (hb hby d1_96) rfl rfl ?_
    show Steps p.tables e below (T166.setTop (mkF m 97 #[.val (.ref a1), .val (.int p1), .val (.int p2), .val (.int p3), .unset] [(.ref b166), (.ref b166), (.ref a1)])) _
    refine st168.trans ?_
    show Steps p.tables e below (T168.setTop (mkF m 100 #[.val (.ref a1), .val (.int p1), .val (.int p2), .val (.int p3), .unset] [(.ref b166), (.ref a1)])) _
    refine st171 _ ?_
    show Steps p.tables e below (T171.setTop (mkF m 103 #[.val (.ref a1), .val (.int p1), .val (.int p2), .val (.int p3), .unset] [])) _
    refine XS.aloadN X171.here hx rfl (hb hby d1_103) rfl rfl ?_
    show Steps p.tables e below (T171.setTop (mkF m 104 #[.val (.ref a1), .val (.int p1), .val (.int p2), .val (.int p3), .unset] [(.ref a1)])) _
    refine st175 _ ?_
    show Steps p.tables e below (T175.setTop (mkF m 107 #[.val (.ref a1), .val (.int p1), .val (.int p2), .val (.int p3), .unset] [(.ref w_Kind_ENTRY), (.ref a1)])) _
    refine st176 _ ?_
    show Steps p.tables e below (T176.setTop (mkF m 109 #[.val (.ref a1), .val (.int p1), .val (.int p2), .val (.int p3), .unset] [(.ref a176), (.ref w_Kind_ENTRY), (.ref a1)])) _
    refine XS.iloadN X176.here hx rfl (hb hby d1_109) rfl ?_
    refine XS.iloadN X176.here hx rfl (hb hby d1_110) rfl ?_
    show Steps p.tables e below (T176.setTop (mkF m 111 #[.val (.ref a1), .val (.int p1), .val (.int p2), .val (.int p3), .unset] [(.int p2), (.int p1), (.ref a176), (.ref w_Kind_ENTRY), (.ref a1)])) _
    refine st196.trans ?_
    show Steps p.tables e below (T196.setTop (mkF m 114 #[.val (.ref a1), .val (.int p1), .val (.int p2), .val (.int p3), .unset] [(.int (0 : Int32))])) _
    refine XS.istore X196.here hx rfl (hb hby d1_114) rfl (l' := #[.val (.ref a1), .val (.int p1), .val (.int p2), .val (.int p3), .val (.int (0 : Int32))]) rfl ?_
    show Steps p.tables e below (T196.setTop (mkF m 116 #[.val (.ref a1), .val (.int p1), .val (.int p2), .val (.int p3), .val (.int (0 : Int32))] [])) _
    refine XS.aloadN X196.here hx rfl (hb hby d1_116) rfl rfl ?_
    refine XS.aloadN X196.here hx rfl (hb hby d1_117) rfl rfl ?_
    show Steps p.tables e below (T196.setTop (mkF m 118 #[.val (.ref a1), .val (.int p1), .val (.int p2), .val (.int p3), .val (.int (0 : Int32))] [(.ref a1), (.ref a1)])) _
    refine st199 _ ?_
    show Steps p.tables e below (T199.setTop (mkF m 121 #[.val (.ref a1), .val (.int p1), .val (.int p2), .val (.int p3), .val (.int (0 : Int32))] [(.ref w_Kind_EXIT), (.ref a1), (.ref a1)])) _
    refine st200 _ ?_
    show Steps p.tables e below (T200.setTop (mkF m 123 #[.val (.ref a1), .val (.int p1), .val (.int p2), .val (.int p3), .val (.int (0 : Int32))] [(.ref a200), (.ref w_Kind_EXIT), (.ref a1), (.ref a1)])) _
    refine XS.iloadN X200.here hx rfl (hb hby d1_123) rfl ?_
    refine XS.iconst X200.here hx rfl (hb hby d1_124) ?_
    show Steps p.tables e below (T200.setTop (mkF m 125 #[.val (.ref a1), .val (.int p1), .val (.int p2), .val (.int p3), .val (.int (0 : Int32))] [(.int (1 : Int32)), (.int p3), (.ref a200), (.ref w_Kind_EXIT), (.ref a1), (.ref a1)])) _
    refine st213.trans ?_
    show Steps p.tables e below (T213.setTop (mkF m 128 #[.val (.ref a1), .val (.int p1), .val (.int p2), .val (.int p3), .val (.int (0 : Int32))] [(.int (1 : Int32)), (.ref a1)])) _
    refine st216 _ ?_
    show Steps p.tables e below (T216.setTop (mkF m 131 #[.val (.ref a1), .val (.int p1), .val (.int p2), .val (.int p3), .val (.int (0 : Int32))] [])) _
    refine XS.aloadN X216.here hx rfl (hb hby d1_131) rfl rfl ?_
    refine XS.iload X216.here hx rfl (hb hby d1_132) rfl ?_
    refine XS.aconstNull X216.here hx rfl (hb hby d1_134) ?_
    show Steps p.tables e below (T216.setTop (mkF m 135 #[.val (.ref a1), .val (.int p1), .val (.int p2), .val (.int p3), .val (.int (0 : Int32))] [.null, (.int (0 : Int32)), (.ref a1)])) _
    refine st221.trans ?_
    show Steps p.tables e below (T221.setTop (mkF m 138 #[.val (.ref a1), .val (.int p1), .val (.int p2), .val (.int p3), .val (.int (0 : Int32))] [])) _
    exact X221.returnOut hx Bd.returns (hb hby d1_138) hr
  · show Q_rm1 Z a1 p1 p2 p3 wd kd vd w_Kind_EXIT w_Kind_ENTRY h0 n0 _ T221.heap _
    unfold Q_rm1
    exact ⟨l_221, e_221, t_221, k_221, rfl, N221, K254, (Nat.le_trans (Nat.le_trans (Nat.le_trans (Nat.le_trans (Nat.le_trans (Nat.le_trans (Nat.le_trans (Nat.le_trans (Nat.le_trans (Nat.le_trans (Nat.le_trans (Nat.le_trans (Nat.le_trans (Nat.le_trans (Nat.le_trans (Nat.le_trans (Nat.le_trans (Nat.le_trans (Nat.le_trans (Nat.le_trans (Nat.le_trans (Nat.le_trans (Nat.le_trans (Nat.le_trans (Nat.le_trans (Nat.le_trans (Nat.le_trans (Nat.le_trans (Nat.le_trans (Nat.le_trans (Nat.le_trans (Nat.le_trans (Nat.le_trans (Nat.le_refl _) E102.1) K104.1) (Nat.le_of_eq W107.size.symm)) E110.1) K112.1) (Nat.le_of_eq W115.size.symm)) E118.1) K120.1) (Nat.le_of_eq W123.size.symm)) E126.1) K128.1) (Nat.le_of_eq W131.size.symm)) E134.1) K136.1) (Nat.le_of_eq W139.size.symm)) E142.1) K144.1) (Nat.le_of_eq W147.size.symm)) E150.1) K152.1) (Nat.le_of_eq W155.size.symm)) E158.1) K160.1) (Nat.le_of_eq W163.size.symm)) E166.1) K168.1) (Nat.le_of_eq W171.size.symm)) E176.1) K196.1) E200.1) K213.1) (Nat.le_of_eq W216.size.symm)) ge_l_221), (Nat.le_trans (Nat.le_trans (Nat.le_trans (Nat.le_trans (Nat.le_trans (Nat.le_trans (Nat.le_trans (Nat.le_trans (Nat.le_trans (Nat.le_trans (Nat.le_trans (Nat.le_trans (Nat.le_trans (Nat.le_trans (Nat.le_trans (Nat.le_trans (Nat.le_trans (Nat.le_trans (Nat.le_trans (Nat.le_trans (Nat.le_trans (Nat.le_trans (Nat.le_trans (Nat.le_trans (Nat.le_trans (Nat.le_trans (Nat.le_trans (Nat.le_trans (Nat.le_trans (Nat.le_trans (Nat.le_trans (Nat.le_trans (Nat.le_trans (Nat.le_refl _) E102.1) K104.1) (Nat.le_of_eq W107.size.symm)) E110.1) K112.1) (Nat.le_of_eq W115.size.symm)) E118.1) K120.1) (Nat.le_of_eq W123.size.symm)) E126.1) K128.1) (Nat.le_of_eq W131.size.symm)) E134.1) K136.1) (Nat.le_of_eq W139.size.symm)) E142.1) K144.1) (Nat.le_of_eq W147.size.symm)) E150.1) K152.1) (Nat.le_of_eq W155.size.symm)) E158.1) K160.1) (Nat.le_of_eq W163.size.symm)) E166.1) K168.1) (Nat.le_of_eq W171.size.symm)) E176.1) K196.1) E200.1) K213.1) (Nat.le_of_eq W216.size.symm)) ge_e_221), (Nat.le_trans (Nat.le_trans (Nat.le_trans (Nat.le_trans (Nat.le_trans (Nat.le_trans (Nat.le_trans (Nat.le_trans (Nat.le_trans (Nat.le_trans (Nat.le_trans (Nat.le_trans (Nat.le_trans (Nat.le_trans (Nat.le_trans (Nat.le_trans (Nat.le_trans (Nat.le_trans (Nat.le_trans (Nat.le_trans (Nat.le_trans (Nat.le_trans (Nat.le_trans (Nat.le_trans (Nat.le_trans (Nat.le_trans (Nat.le_trans (Nat.le_trans (Nat.le_trans (Nat.le_trans (Nat.le_trans (Nat.le_trans (Nat.le_trans (Nat.le_refl _) E102.1) K104.1) (Nat.le_of_eq W107.size.symm)) E110.1) K112.1) (Nat.le_of_eq W115.size.symm)) E118.1) K120.1) (Nat.le_of_eq W123.size.symm)) E126.1) K128.1) (Nat.le_of_eq W131.size.symm)) E134.1) K136.1) (Nat.le_of_eq W139.size.symm)) E142.1) K144.1) (Nat.le_of_eq W147.size.symm)) E150.1) K152.1) (Nat.le_of_eq W155.size.symm)) E158.1) K160.1) (Nat.le_of_eq W163.size.symm)) E166.1) K168.1) (Nat.le_of_eq W171.size.symm)) E176.1) K196.1) E200.1) K213.1) (Nat.le_of_eq W216.size.symm)) ge_t_221), f221_0, f221_1, f221_2, f221_3, f221_4, f221_5, f221_6, f221_7, f221_8, f221_9, f221_10, f221_11⟩
def Q_rm29 (Z : State) (a1 : Addr) (p1 : Int32) (v2 : Value) (h0 : Heap) (n0 : Nat) (v : Option Value) (h : Heap) (L : List Loc) : Prop := (v = some (.int (1 : Int32))) ∧ (Fr n0 L) ∧ (h = h0)
theorem own_room {l : Launch} {x : MethodName} {ws : List Jvm.Cond} {r r' : Room} {P : Array Value → State → Prop} {K : Program → Env → List Frame → State → Array Value → Prop} {Q : Array Value → State → Outcome → State → Prop} (hr : r = r') (h : MetFree l x (head1 ws r) P K Q) : MetFree l x (head1 ws r') P K Q := hr ▸ h
theorem ef_rm29nb (m : MethodId) (x0 : Addr) (x1 : Int32) : entryFrame m #[(.ref x0), (.int x1), .null] 3 = mkF m 0 #[.val (.ref x0), .val (.int x1), .val .null] [] := by first | (simp [entryFrame, mkF, argsToLocals, Value.category]; done) | rfl
def Q_rm29nb (Z : State) (a1 : Addr) (p1 : Int32) (h0 : Heap) (n0 : Nat) (v : Option Value) (h : Heap) (L : List Loc) : Prop := (v = some (.int (1 : Int32))) ∧ (Fr n0 L) ∧ (h = h0)
set_option maxRecDepth 65536 in
set_option maxHeartbeats 40000000 in
theorem rm29nb (l : Launch) (Z : State) (a0 : Array Value) (hw : ∀ d ∈ tables_1, d.before a0 Z = true) (ws : List Jvm.Cond) (a1 : Addr) (p1 : Int32) (h0 : Heap) (n0 : Nat) (O0 : Old Z n0 h0) (F0 : Exa Z h0 a1 "com/example/fixlore/fixlore/lang/GraphBuilder$End") (F1 : Fld Z h0 a1 "com/example/fixlore/fixlore/lang/GraphBuilder$End" "from" "I" (.int p1)) (F2 : Fld Z h0 a1 "com/example/fixlore/fixlore/lang/GraphBuilder$End" "branch" "Ljava/lang/String;" .null) :
    MetFree l (⟨"com/example/fixlore/fixlore/lang/GraphBuilderSuspendPinLaw", "endIs", "(Lcom/example/fixlore/fixlore/lang/GraphBuilder$End;ILjava/lang/String;)Z"⟩ : MethodName) (head1 (Jvm.Cond.code (⟨"com/example/fixlore/fixlore/lang/GraphBuilderSuspendPinLaw", "endIs", "(Lcom/example/fixlore/fixlore/lang/GraphBuilder$End;ILjava/lang/String;)Z"⟩ : MethodName) method_2_code 3 (some .boolean) :: ws) ({ frames := 1, cells := 0, slots := 0, locals := 14 } : Room)) (fun a U => a = #[(.ref a1), (.int p1), .null] ∧ Z.Warmed39 U.vm ∧ U.heap = h0) (fun _ _ _ _ _ => True) (fun _ U o U' => ∃ v L, o = .returned v ∧ Q_rm29nb Z a1 p1 h0 n0 v U'.heap L ∧ FrameEnd U o U' L ({ frames := 1, cells := 0, slots := 0, locals := 14 } : Room).cells ({ frames := 1, cells := 0, slots := 0, locals := 14 } : Room).slots) := by
  refine MetFree.of_bodySF (plainFor_of_name pn_15) hisR ?_
  intro p e s m args below meth c s₁ Bd hml0 hP hK
  obtain ⟨rfl, hZ, hh⟩ := hP
  have hx := Bd.exec
  have hby := Bd.bytes
  have hml : c.maxLocals = 3 := hml0
  have hown : s.vm.findClass "com/example/fixlore/fixlore/lang/GraphBuilderSuspendPinLaw" = some m.cls := findClass_of_methodNamed Bd.named
  have hnm := (name_of_methodNamed Bd.named Bd.method).1
  have X0 : Stand p l e ({ frames := 1, cells := 0, slots := 0, locals := 14 } : Room) s m #[(.ref a1), (.int p1), .null] below meth c s₁ [] 0 0 := Stand.of_body Bd
  have e0 : s₁.heap = h0 := by rw [← hh, Bd.state]; rfl
  have N0 := Fr.nil n0
  have Z0 : n0 ≤ h0.size := old_le O0
  have pre0 : ∀ t, Steps p.tables e below (s₁.setTop (mkF m 0 #[.val (.ref a1), .val (.int p1), .val .null] [])) t → Steps p.tables e below (s₁.setTop (entryFrame m #[(.ref a1), (.int p1), .null] 3)) t := fun t k => castTop (ef_rm29nb m a1 p1) k
  obtain ⟨cq101, kq101, q101a, q101b, q101c⟩ := isOf hZ e0 F0
  obtain ⟨_, _, ⟨T101, L101, k101, n101⟩, -, X101, ⟨Lc101, hQ101, l101, y101, z101⟩, st101⟩ := X0.virtualBack hx (y := (⟨"com/example/fixlore/fixlore/lang/GraphBuilder$End", "from", "()I"⟩ : MethodName)) (z := (⟨"com/example/fixlore/fixlore/lang/GraphBuilder$End", "from", "()I"⟩ : MethodName)) hown (mvT hZ (hwk hw 256 rfl)) (mvT hZ (hwk hw 257 rfl)) (notFace_of_selects (args := #[]) (mvT hZ (hwk hw 259 rfl))) (mvT hZ (hwk hw 259 rfl)) (mvT hZ (hwk hw 258 rfl)) (by decide) (backOf (W := 0) (rm30 l Z a0 hw [] a1 p1 h0 n0 O0 F1) hZ (hwk hw 260 rfl) (hwk hw 207 rfl) (by decide) (by decide)) q101a q101c (g := (mkF m 1 #[.val (.ref a1), .val (.int p1), .val .null] [(.ref a1)])) rfl (by rw [hml]; rfl) (Steps.refl _) (argsL := []) (rest := []) (lenOf pd_8 rfl) rfl (by show 2 * 0 + _ ≤ _; exact Nat.le_of_eq rfl) (hb hby d29_1) (fun _ _ => ⟨rfl, e0, (by decide : 0 + 0 ≤ _), (by decide : 0 + 0 ≤ _)⟩)
  dsimp only [Pt.U, Pt.locs, Pt.cells, Pt.slots] at X101 l101 y101 z101 st101 hQ101
  subst l101 y101 z101
  unfold Q_rm30 at hQ101
  obtain ⟨rfl, N101q, e101⟩ := hQ101
  have N101 := Fr.app N0 N101q
  obtain ⟨cq102, kq102, q102a, q102b, q102c⟩ := isOf hZ e101 F0
  obtain ⟨_, _, ⟨T102, L102, k102, n102⟩, -, X102, ⟨Lc102, hQ102, l102, y102, z102⟩, st102⟩ := X101.virtualBack hx (y := (⟨"com/example/fixlore/fixlore/lang/GraphBuilder$End", "branch", "()Ljava/lang/String;"⟩ : MethodName)) (z := (⟨"com/example/fixlore/fixlore/lang/GraphBuilder$End", "branch", "()Ljava/lang/String;"⟩ : MethodName)) hown (mvT hZ (hwk hw 261 rfl)) (mvT hZ (hwk hw 262 rfl)) (notFace_of_selects (args := #[]) (mvT hZ (hwk hw 264 rfl))) (mvT hZ (hwk hw 264 rfl)) (mvT hZ (hwk hw 263 rfl)) (by decide) (backOf (W := 0) (rm31n l Z a0 hw [] a1 h0 n0 O0 F2) hZ (hwk hw 265 rfl) (hwk hw 207 rfl) (by decide) (by decide)) q102a q102c (g := (mkF m 15 #[.val (.ref a1), .val (.int p1), .val .null] [(.ref a1)])) rfl (by rw [hml]; rfl) (Steps.refl _) (argsL := []) (rest := []) (lenOf pd_12 rfl) rfl (by show 2 * 0 + _ ≤ _; exact Nat.le_of_eq rfl) (hb hby d29_15) (fun _ _ => ⟨rfl, e101, (by decide : 0 + 0 ≤ _), (by decide : 0 + 0 ≤ _)⟩)
  dsimp only [Pt.U, Pt.locs, Pt.cells, Pt.slots] at X102 l102 y102 z102 st102 hQ102
  subst l102 y102 z102
  unfold Q_rm31n at hQ102
  obtain ⟨rfl, N102q, e102⟩ := hQ102
  have N102 := Fr.app N101 N102q
  obtain ⟨fs, hr, hrun, hended, hW, hsame⟩ := X102.leave (v := some (.int (1 : Int32))) (fun h => by rw [Bd.returns] at h; cases h)
  refine ⟨_, _, pre0 _ ?_, hrun, hended, _, _, rfl, ?_, ⟨_, rfl⟩, hW, hsame.mono (by decide) (by decide)⟩
  · show Steps p.tables e below (s₁.setTop (mkF m 0 #[.val (.ref a1), .val (.int p1), .val .null] [])) _
    refine XS.aloadN X0.here hx rfl (hb hby d29_0) rfl rfl ?_
    show Steps p.tables e below (s₁.setTop (mkF m 1 #[.val (.ref a1), .val (.int p1), .val .null] [(.ref a1)])) _
    refine st101.trans ?_
    show Steps p.tables e below (T101.setTop (mkF m 4 #[.val (.ref a1), .val (.int p1), .val .null] [(.int p1)])) _
    refine XS.iloadN X101.here hx rfl (hb hby d29_4) rfl ?_
    refine XS.icmpYes X101.here hx rfl (pc0 := 5) (pc' := 10) rfl (hb hby d29_5) rfl (teq (rfl : p1 = p1)).1 (by decide) (by decide) ?_
    show Steps p.tables e below (T101.setTop (mkF m 10 #[.val (.ref a1), .val (.int p1), .val .null] [])) _
    refine XS.aloadN X101.here hx rfl (hb hby d29_10) rfl rfl ?_
    refine XS.ifnonnullNo X101.here hx rfl (hb hby d29_11) rfl ?_
    show Steps p.tables e below (T101.setTop (mkF m 14 #[.val (.ref a1), .val (.int p1), .val .null] [])) _
    refine XS.aloadN X101.here hx rfl (hb hby d29_14) rfl rfl ?_
    show Steps p.tables e below (T101.setTop (mkF m 15 #[.val (.ref a1), .val (.int p1), .val .null] [(.ref a1)])) _
    refine st102.trans ?_
    show Steps p.tables e below (T102.setTop (mkF m 18 #[.val (.ref a1), .val (.int p1), .val .null] [.null])) _
    refine XS.ifnonnullNo X102.here hx rfl (hb hby d29_18) rfl ?_
    show Steps p.tables e below (T102.setTop (mkF m 21 #[.val (.ref a1), .val (.int p1), .val .null] [])) _
    refine XS.iconst X102.here hx rfl (hb hby d29_21) ?_
    refine XS.goto X102.here hx rfl (pc0 := 22) (pc' := 26) rfl (hb hby d29_22) (by decide) (by decide) ?_
    show Steps p.tables e below (T102.setTop (mkF m 26 #[.val (.ref a1), .val (.int p1), .val .null] [(.int (1 : Int32))])) _
    exact Jvm.RoadKit.retOut X102 hx Bd.returns rfl (Or.inl ⟨rfl, by simp, _, rfl⟩) (hb hby d29_26) hr
  · show Q_rm29nb Z a1 p1 h0 n0 _ T102.heap _
    rw [e102]
    unfold Q_rm29nb
    exact ⟨rfl, N102, rfl⟩
theorem ef_rm29rb (m : MethodId) (x0 : Addr) (x1 : Int32) (x2 : Addr) : entryFrame m #[(.ref x0), (.int x1), (.ref x2)] 3 = mkF m 0 #[.val (.ref x0), .val (.int x1), .val (.ref x2)] [] := by first | (simp [entryFrame, mkF, argsToLocals, Value.category]; done) | rfl
def Q_rm29rb (Z : State) (a1 : Addr) (p1 : Int32) (r1 : Addr) (h0 : Heap) (n0 : Nat) (v : Option Value) (h : Heap) (L : List Loc) : Prop := (v = some (.int (1 : Int32))) ∧ (Fr n0 L) ∧ (h = h0)
set_option maxRecDepth 65536 in
set_option maxHeartbeats 40000000 in
theorem rm29rb (l : Launch) (Z : State) (a0 : Array Value) (hw : ∀ d ∈ tables_1, d.before a0 Z = true) (ws : List Jvm.Cond) (a1 : Addr) (p1 : Int32) (r1 : Addr) (h0 : Heap) (n0 : Nat) (O0 : Old Z n0 h0) (F0 : Exa Z h0 a1 "com/example/fixlore/fixlore/lang/GraphBuilder$End") (F1 : Fld Z h0 a1 "com/example/fixlore/fixlore/lang/GraphBuilder$End" "from" "I" (.int p1)) (F2 : Fld Z h0 a1 "com/example/fixlore/fixlore/lang/GraphBuilder$End" "branch" "Ljava/lang/String;" (.ref r1)) (ES : Exa Z h0 r1 "java/lang/String") :
    MetFree l (⟨"com/example/fixlore/fixlore/lang/GraphBuilderSuspendPinLaw", "endIs", "(Lcom/example/fixlore/fixlore/lang/GraphBuilder$End;ILjava/lang/String;)Z"⟩ : MethodName) (head1 (Jvm.Cond.code (⟨"com/example/fixlore/fixlore/lang/GraphBuilderSuspendPinLaw", "endIs", "(Lcom/example/fixlore/fixlore/lang/GraphBuilder$End;ILjava/lang/String;)Z"⟩ : MethodName) method_2_code 3 (some .boolean) :: ws) ({ frames := 1, cells := 0, slots := 0, locals := 14 } : Room)) (fun a U => a = #[(.ref a1), (.int p1), (.ref r1)] ∧ Z.Warmed39 U.vm ∧ U.heap = h0) (fun _ _ _ _ _ => True) (fun _ U o U' => ∃ v L, o = .returned v ∧ Q_rm29rb Z a1 p1 r1 h0 n0 v U'.heap L ∧ FrameEnd U o U' L ({ frames := 1, cells := 0, slots := 0, locals := 14 } : Room).cells ({ frames := 1, cells := 0, slots := 0, locals := 14 } : Room).slots) := by
  refine MetFree.of_bodySF (plainFor_of_name pn_15) hisR ?_
  intro p e s m args below meth c s₁ Bd hml0 hP hK
  obtain ⟨rfl, hZ, hh⟩ := hP
  have hx := Bd.exec
  have hby := Bd.bytes
  have hml : c.maxLocals = 3 := hml0
  have hown : s.vm.findClass "com/example/fixlore/fixlore/lang/GraphBuilderSuspendPinLaw" = some m.cls := findClass_of_methodNamed Bd.named
  have hnm := (name_of_methodNamed Bd.named Bd.method).1
  have X0 : Stand p l e ({ frames := 1, cells := 0, slots := 0, locals := 14 } : Room) s m #[(.ref a1), (.int p1), (.ref r1)] below meth c s₁ [] 0 0 := Stand.of_body Bd
  have e0 : s₁.heap = h0 := by rw [← hh, Bd.state]; rfl
  have N0 := Fr.nil n0
  have Z0 : n0 ≤ h0.size := old_le O0
  have pre0 : ∀ t, Steps p.tables e below (s₁.setTop (mkF m 0 #[.val (.ref a1), .val (.int p1), .val (.ref r1)] [])) t → Steps p.tables e below (s₁.setTop (entryFrame m #[(.ref a1), (.int p1), (.ref r1)] 3)) t := fun t k => castTop (ef_rm29rb m a1 p1 r1) k
  obtain ⟨cq101, kq101, q101a, q101b, q101c⟩ := isOf hZ e0 F0
  obtain ⟨_, _, ⟨T101, L101, k101, n101⟩, -, X101, ⟨Lc101, hQ101, l101, y101, z101⟩, st101⟩ := X0.virtualBack hx (y := (⟨"com/example/fixlore/fixlore/lang/GraphBuilder$End", "from", "()I"⟩ : MethodName)) (z := (⟨"com/example/fixlore/fixlore/lang/GraphBuilder$End", "from", "()I"⟩ : MethodName)) hown (mvT hZ (hwk hw 256 rfl)) (mvT hZ (hwk hw 257 rfl)) (notFace_of_selects (args := #[]) (mvT hZ (hwk hw 259 rfl))) (mvT hZ (hwk hw 259 rfl)) (mvT hZ (hwk hw 258 rfl)) (by decide) (backOf (W := 0) (rm30 l Z a0 hw [] a1 p1 h0 n0 O0 F1) hZ (hwk hw 260 rfl) (hwk hw 207 rfl) (by decide) (by decide)) q101a q101c (g := (mkF m 1 #[.val (.ref a1), .val (.int p1), .val (.ref r1)] [(.ref a1)])) rfl (by rw [hml]; rfl) (Steps.refl _) (argsL := []) (rest := []) (lenOf pd_8 rfl) rfl (by show 2 * 0 + _ ≤ _; exact Nat.le_of_eq rfl) (hb hby d29_1) (fun _ _ => ⟨rfl, e0, (by decide : 0 + 0 ≤ _), (by decide : 0 + 0 ≤ _)⟩)
  dsimp only [Pt.U, Pt.locs, Pt.cells, Pt.slots] at X101 l101 y101 z101 st101 hQ101
  subst l101 y101 z101
  unfold Q_rm30 at hQ101
  obtain ⟨rfl, N101q, e101⟩ := hQ101
  have N101 := Fr.app N0 N101q
  obtain ⟨cq102, kq102, q102a, q102b, q102c⟩ := isOf hZ e101 F0
  obtain ⟨_, _, ⟨T102, L102, k102, n102⟩, -, X102, ⟨Lc102, hQ102, l102, y102, z102⟩, st102⟩ := X101.virtualBack hx (y := (⟨"com/example/fixlore/fixlore/lang/GraphBuilder$End", "branch", "()Ljava/lang/String;"⟩ : MethodName)) (z := (⟨"com/example/fixlore/fixlore/lang/GraphBuilder$End", "branch", "()Ljava/lang/String;"⟩ : MethodName)) hown (mvT hZ (hwk hw 261 rfl)) (mvT hZ (hwk hw 262 rfl)) (notFace_of_selects (args := #[]) (mvT hZ (hwk hw 264 rfl))) (mvT hZ (hwk hw 264 rfl)) (mvT hZ (hwk hw 263 rfl)) (by decide) (backOf (W := 1) (rm31r l Z a0 hw [] a1 r1 h0 n0 O0 F2) hZ (hwk hw 265 rfl) (hwk hw 207 rfl) (by decide) (by decide)) q102a q102c (g := (mkF m 29 #[.val (.ref a1), .val (.int p1), .val (.ref r1)] [(.ref a1), (.ref r1)])) rfl (by rw [hml]; rfl) (Steps.refl _) (argsL := []) (rest := [(.ref r1)]) (lenOf pd_12 rfl) rfl (by show 2 * 0 + _ ≤ _; exact Nat.le_of_eq rfl) (hb hby d29_29) (fun _ _ => ⟨rfl, e101, (by decide : 0 + 0 ≤ _), (by decide : 0 + 0 ≤ _)⟩)
  dsimp only [Pt.U, Pt.locs, Pt.cells, Pt.slots] at X102 l102 y102 z102 st102 hQ102
  subst l102 y102 z102
  unfold Q_rm31r at hQ102
  obtain ⟨rfl, N102q, e102⟩ := hQ102
  have N102 := Fr.app N101 N102q
  obtain ⟨cq103, kq103, q103a, q103b, q103c⟩ := isOf hZ e102 ES
  obtain ⟨_, _, ⟨T103, L103, k103, n103⟩, -, X103, ⟨Lc103, hQ103, l103, y103, z103⟩, st103⟩ := X102.virtualBack hx (y := (⟨"java/lang/String", "equals", "(Ljava/lang/Object;)Z"⟩ : MethodName)) (z := (⟨"java/lang/String", "equals", "(Ljava/lang/Object;)Z"⟩ : MethodName)) hown (mvT hZ (hwk hw 285 rfl)) (mvT hZ (hwk hw 286 rfl)) (notFace_of_selects (args := #[]) (mvT hZ (hwk hw 288 rfl))) (mvT hZ (hwk hw 288 rfl)) (mvT hZ (hwk hw 287 rfl)) (by decide) (backOf (W := 0) (rm36 l Z a0 hw [] r1 h0 n0 O0 ) hZ (hwk hw 289 rfl) (hwk hw 102 rfl) (by decide) (by decide)) q103a q103c (g := (mkF m 32 #[.val (.ref a1), .val (.int p1), .val (.ref r1)] [(.ref r1), (.ref r1)])) rfl (by rw [hml]; rfl) (Steps.refl _) (argsL := [(.ref r1)]) (rest := []) (lenOf pd_7 rfl) rfl (by show 2 * 0 + _ ≤ _; exact Nat.le_of_eq rfl) (hb hby d29_32) (fun _ _ => ⟨rfl, e102, (by decide : 0 + 0 ≤ _), (by decide : 0 + 0 ≤ _)⟩)
  dsimp only [Pt.U, Pt.locs, Pt.cells, Pt.slots] at X103 l103 y103 z103 st103 hQ103
  subst l103 y103 z103
  unfold Q_rm36 at hQ103
  obtain ⟨rfl, N103q, e103⟩ := hQ103
  have N103 := Fr.app N102 N103q
  obtain ⟨fs, hr, hrun, hended, hW, hsame⟩ := X103.leave (v := some (.int (1 : Int32))) (fun h => by rw [Bd.returns] at h; cases h)
  refine ⟨_, _, pre0 _ ?_, hrun, hended, _, _, rfl, ?_, ⟨_, rfl⟩, hW, hsame.mono (by decide) (by decide)⟩
  · show Steps p.tables e below (s₁.setTop (mkF m 0 #[.val (.ref a1), .val (.int p1), .val (.ref r1)] [])) _
    refine XS.aloadN X0.here hx rfl (hb hby d29_0) rfl rfl ?_
    show Steps p.tables e below (s₁.setTop (mkF m 1 #[.val (.ref a1), .val (.int p1), .val (.ref r1)] [(.ref a1)])) _
    refine st101.trans ?_
    show Steps p.tables e below (T101.setTop (mkF m 4 #[.val (.ref a1), .val (.int p1), .val (.ref r1)] [(.int p1)])) _
    refine XS.iloadN X101.here hx rfl (hb hby d29_4) rfl ?_
    refine XS.icmpYes X101.here hx rfl (pc0 := 5) (pc' := 10) rfl (hb hby d29_5) rfl (teq (rfl : p1 = p1)).1 (by decide) (by decide) ?_
    show Steps p.tables e below (T101.setTop (mkF m 10 #[.val (.ref a1), .val (.int p1), .val (.ref r1)] [])) _
    refine XS.aloadN X101.here hx rfl (hb hby d29_10) rfl rfl ?_
    refine XS.ifnonnullYes X101.here hx rfl (pc0 := 11) (pc' := 27) rfl (hb hby d29_11) rfl (by decide) (by decide) ?_
    show Steps p.tables e below (T101.setTop (mkF m 27 #[.val (.ref a1), .val (.int p1), .val (.ref r1)] [])) _
    refine XS.aloadN X101.here hx rfl (hb hby d29_27) rfl rfl ?_
    refine XS.aloadN X101.here hx rfl (hb hby d29_28) rfl rfl ?_
    show Steps p.tables e below (T101.setTop (mkF m 29 #[.val (.ref a1), .val (.int p1), .val (.ref r1)] [(.ref a1), (.ref r1)])) _
    refine st102.trans ?_
    show Steps p.tables e below (T102.setTop (mkF m 32 #[.val (.ref a1), .val (.int p1), .val (.ref r1)] [(.ref r1), (.ref r1)])) _
    refine st103.trans ?_
    show Steps p.tables e below (T103.setTop (mkF m 35 #[.val (.ref a1), .val (.int p1), .val (.ref r1)] [(.int (1 : Int32))])) _
    exact Jvm.RoadKit.retOut X103 hx Bd.returns rfl (Or.inl ⟨rfl, by simp, _, rfl⟩) (hb hby d29_35) hr
  · show Q_rm29rb Z a1 p1 r1 h0 n0 _ T103.heap _
    rw [e103]
    unfold Q_rm29rb
    exact ⟨rfl, N103, rfl⟩
set_option maxHeartbeats 4000000 in
theorem rm29 (l : Launch) (Z : State) (a0 : Array Value) (hw : ∀ d ∈ tables_1, d.before a0 Z = true) (ws : List Jvm.Cond) (a1 : Addr) (p1 : Int32) (v2 : Value) (h0 : Heap) (n0 : Nat) (O0 : Old Z n0 h0) (F0 : Exa Z h0 a1 "com/example/fixlore/fixlore/lang/GraphBuilder$End") (F1 : Fld Z h0 a1 "com/example/fixlore/fixlore/lang/GraphBuilder$End" "from" "I" (.int p1)) (F2 : Fld Z h0 a1 "com/example/fixlore/fixlore/lang/GraphBuilder$End" "branch" "Ljava/lang/String;" v2) (hv2 : v2.isRef = true) (MS : OptExa Z h0 v2 "java/lang/String") :
    MetFree l (⟨"com/example/fixlore/fixlore/lang/GraphBuilderSuspendPinLaw", "endIs", "(Lcom/example/fixlore/fixlore/lang/GraphBuilder$End;ILjava/lang/String;)Z"⟩ : MethodName) (head1 (Jvm.Cond.code (⟨"com/example/fixlore/fixlore/lang/GraphBuilderSuspendPinLaw", "endIs", "(Lcom/example/fixlore/fixlore/lang/GraphBuilder$End;ILjava/lang/String;)Z"⟩ : MethodName) method_2_code 3 (some .boolean) :: ws) ({ frames := 1, cells := 0, slots := 0, locals := 14 } : Room)) (fun a U => a = #[(.ref a1), (.int p1), v2] ∧ Z.Warmed39 U.vm ∧ U.heap = h0) (fun _ _ _ _ _ => True) (fun _ U o U' => ∃ v L, o = .returned v ∧ Q_rm29 Z a1 p1 v2 h0 n0 v U'.heap L ∧ FrameEnd U o U' L ({ frames := 1, cells := 0, slots := 0, locals := 14 } : Room).cells ({ frames := 1, cells := 0, slots := 0, locals := 14 } : Room).slots) := by
  rcases ref_cases hv2 with rfl | ⟨r, rfl⟩
  · exact rm29nb l Z a0 hw ws a1 p1 h0 n0 O0 F0 F1 F2
  · exact rm29rb l Z a0 hw ws a1 p1 r h0 n0 O0 F0 F1 F2 (MS r rfl)

theorem ef_rm0 (m : MethodId) (x0 : Int32) (x1 : Int32) (x2 : Int32) (x3 : Int32) (x4 : Int32) (x5 : Int32) : entryFrame m #[(.int x0), (.int x1), (.int x2), (.int x3), (.int x4), (.int x5)] maxLocals = mkF m 0 #[.val (.int x0), .val (.int x1), .val (.int x2), .val (.int x3), .val (.int x4), .val (.int x5), .unset, .unset, .unset, .unset, .unset, .unset, .unset, .unset, .unset, .unset] [] := by first | (simp [entryFrame, mkF, argsToLocals, Value.category, maxLocals]; done) | rfl
def Q_rm0 (Z : State) (p0 : Int32) (p1 : Int32) (p2 : Int32) (p3 : Int32) (p4 : Int32) (p5 : Int32) (w_Kind_EXIT : Addr) (w_Kind_ENTRY : Addr) (wd : Addr) (kd : ClassId) (vd : List Value) (zc : Int32) (h0 : Heap) (n0 : Nat) (v : Option Value) (h : Heap) (L : List Loc) : Prop := (v = some (.int (1 : Int32))) ∧ (Fr n0 L) ∧ (Keep h0 h [])
theorem pd_17 : parseMethodDescriptor "(III)V" = some ⟨[.int, .int, .int], none⟩ := by decide +kernel
theorem pd_18 : parseMethodDescriptor "(C)Ljava/lang/String;" = some ⟨[.char], some (.object "java/lang/String")⟩ := by decide +kernel
theorem pd_19 : parseMethodDescriptor "()Ljava/util/List;" = some ⟨[], some (.object "java/util/List")⟩ := by decide +kernel
theorem pd_20 : parseMethodDescriptor "(Lcom/example/fixlore/fixlore/lang/GraphBuilder$End;ILjava/lang/String;)Z" = some ⟨[(.object "com/example/fixlore/fixlore/lang/GraphBuilder$End"), .int, (.object "java/lang/String")], some .boolean⟩ := by decide +kernel
set_option maxRecDepth 65536 in
set_option maxHeartbeats 40000000 in
theorem rm0 (l : Launch) (Z : State) (a0 : Array Value) (hw : ∀ d ∈ tables_1, d.before a0 Z = true) (ws : List Jvm.Cond) (p0 : Int32) (p1 : Int32) (p2 : Int32) (p3 : Int32) (p4 : Int32) (p5 : Int32) (w_Kind_EXIT : Addr) (w_Kind_ENTRY : Addr) (wd : Addr) (kd : ClassId) (vd : List Value) (zc : Int32) (h0 : Heap) (n0 : Nat) (O0 : Old Z n0 h0) (S_Kind_EXIT : Sta Z Z.heap "com/example/fixlore/fixlore/lang/SemanticGraph$Kind" "EXIT" "Lcom/example/fixlore/fixlore/lang/SemanticGraph$Kind;" (.ref w_Kind_EXIT)) (E_w_Kind_EXIT : Exa Z Z.heap w_Kind_EXIT "com/example/fixlore/fixlore/lang/SemanticGraph$Kind") (S_Kind_ENTRY : Sta Z Z.heap "com/example/fixlore/fixlore/lang/SemanticGraph$Kind" "ENTRY" "Lcom/example/fixlore/fixlore/lang/SemanticGraph$Kind;" (.ref w_Kind_ENTRY)) (E_w_Kind_ENTRY : Exa Z Z.heap w_Kind_ENTRY "com/example/fixlore/fixlore/lang/SemanticGraph$Kind") (SD : Sta Z Z.heap "java/util/ArrayList" "DEFAULTCAPACITY_EMPTY_ELEMENTDATA" "[Ljava/lang/Object;" (.ref wd)) (VD : Arv Z Z.heap wd kd (.object "java/lang/Object") (0 : Int32) vd .null) (SZ : Sta Z Z.heap "java/lang/String" "COMPACT_STRINGS" "Z" (.int zc)) (PZ : ¬ (zc = (0 : Int32))) :
    MetFree l x (head1 (Jvm.Cond.code x code maxLocals ret :: ws) room_1) (fun a U => a = #[(.int p0), (.int p1), (.int p2), (.int p3), (.int p4), (.int p5)] ∧ Z.Warmed39 U.vm ∧ U.heap = h0) (fun _ _ _ _ _ => True) (fun _ U o U' => ∃ v L, o = .returned v ∧ Q_rm0 Z p0 p1 p2 p3 p4 p5 w_Kind_EXIT w_Kind_ENTRY wd kd vd zc h0 n0 v U'.heap L ∧ ReturnedEndW U o U' L room_1.cells room_1.slots) := by
  refine MetFree.of_bodySF (plainFor_of_name pn_15) hisR ?_
  intro p e s m args below meth c s₁ Bd hml0 hP hK
  obtain ⟨rfl, hZ, hh⟩ := hP
  have hx := Bd.exec
  have hby := Bd.bytes
  have hml : c.maxLocals = 16 := hml0
  have hown : s.vm.findClass "com/example/fixlore/fixlore/lang/GraphBuilderSuspendPinLaw" = some m.cls := findClass_of_methodNamed Bd.named
  have hnm := (name_of_methodNamed Bd.named Bd.method).1
  have hS0 : s.Since s.vm h0.size := (State.WarmedH.refl s).since _
  have hstr : ∀ a ∈ Bundle.stringAtoms, a.before a0 Z = true := own_str hw
  have X0 : Stand p l e room_1 (s.setVm s.vm) m #[(.int p0), (.int p1), (.int p2), (.int p3), (.int p4), (.int p5)] below meth c s₁ [] 0 0 := Stand.of_body Bd
  have e0 : s₁.heap = h0 := by rw [← hh, Bd.state]; rfl
  have N0 := Fr.nil n0
  have Z0 : n0 ≤ h0.size := old_le O0
  have pre0 : ∀ t, Steps p.tables e below (s₁.setTop (mkF m 0 #[.val (.int p0), .val (.int p1), .val (.int p2), .val (.int p3), .val (.int p4), .val (.int p5), .unset, .unset, .unset, .unset, .unset, .unset, .unset, .unset, .unset, .unset] [])) t → Steps p.tables e below (s₁.setTop (entryFrame m #[(.int p0), (.int p1), (.int p2), (.int p3), (.int p4), (.int p5)] maxLocals)) t := fun t k => castTop (ef_rm0 m p0 p1 p2 p3 p4 p5) k
  obtain ⟨T101, h101, X101, e101, E101, A101, D101, -, st101⟩ := newO X0 hx hZ hown (hwk hw 0 rfl) (hwk hw 1 rfl) (hwk hw 2 rfl) e0 (g := (mkF m 0 #[.val (.int p0), .val (.int p1), .val (.int p2), .val (.int p3), .val (.int p4), .val (.int p5), .unset, .unset, .unset, .unset, .unset, .unset, .unset, .unset, .unset, .unset] [])) rfl (hb hby at_0) (by decide) (by decide)
  obtain ⟨b101, g101⟩ : ∃ z, z = h0.size := ⟨_, rfl⟩
  rw [← g101] at A101 D101 st101
  have g_b101 : n0 ≤ b101 := Nat.le_trans (old_le O0) (Nat.le_of_eq g101.symm)
  have O102 : Old Z n0 h101 := Old.ext O0 E101
  obtain ⟨_, _, ⟨T103, L103, k103, n103⟩, -, X103, hs103', hg103', ⟨Lc103, hQ103, l103, y103, z103⟩, st103⟩ := X101.specialBackS hx (y := (⟨"com/example/fixlore/fixlore/lang/GraphBuilder", "<init>", "(III)V"⟩ : MethodName)) rfl hown (mvT hZ (hwk hw 3 rfl)) (mvT hZ (hwk hw 4 rfl)) (mvT hZ (hwk hw 5 rfl)) (by decide) (backOfS (W := 1) (rm1 l Z a0 hw [] b101 p0 p1 p2 wd kd vd w_Kind_EXIT w_Kind_ENTRY h101 n0 O102 A101 g_b101 (show Fld Z h101 b101 "com/example/fixlore/fixlore/lang/GraphBuilder" "nodes" "Ljava/util/List;" .null from D101 (Or.inr (hwk hw 34 rfl)) (ty := (.object "java/util/List")) (by decide)) (show Fld Z h101 b101 "com/example/fixlore/fixlore/lang/GraphBuilder" "edges" "Ljava/util/List;" .null from D101 (Or.inr (hwk hw 36 rfl)) (ty := (.object "java/util/List")) (by decide)) (show Fld Z h101 b101 "com/example/fixlore/fixlore/lang/GraphBuilder" "variables" "Ljava/util/Map;" .null from D101 (Or.inr (hwk hw 54 rfl)) (ty := (.object "java/util/Map")) (by decide)) (show Fld Z h101 b101 "com/example/fixlore/fixlore/lang/GraphBuilder" "bound" "Ljava/util/Set;" .null from D101 (Or.inr (hwk hw 75 rfl)) (ty := (.object "java/util/Set")) (by decide)) (show Fld Z h101 b101 "com/example/fixlore/fixlore/lang/GraphBuilder" "outsideNames" "Ljava/util/Map;" .null from D101 (Or.inr (hwk hw 77 rfl)) (ty := (.object "java/util/Map")) (by decide)) (show Fld Z h101 b101 "com/example/fixlore/fixlore/lang/GraphBuilder" "frames" "Ljava/util/Deque;" .null from D101 (Or.inr (hwk hw 91 rfl)) (ty := (.object "java/util/Deque")) (by decide)) (show Fld Z h101 b101 "com/example/fixlore/fixlore/lang/GraphBuilder" "tryParts" "Ljava/util/List;" .null from D101 (Or.inr (hwk hw 93 rfl)) (ty := (.object "java/util/List")) (by decide)) (show Fld Z h101 b101 "com/example/fixlore/fixlore/lang/GraphBuilder" "openTryParts" "Ljava/util/Deque;" .null from D101 (Or.inr (hwk hw 95 rfl)) (ty := (.object "java/util/Deque")) (by decide)) (show Fld Z h101 b101 "com/example/fixlore/fixlore/lang/GraphBuilder" "pending" "Ljava/util/List;" .null from D101 (Or.inl (hwk hw 97 rfl)) (ty := (.object "java/util/List")) (by decide)) (show Fld Z h101 b101 "com/example/fixlore/fixlore/lang/GraphBuilder" "exit" "I" (.int (0 : Int32)) from D101 (Or.inr (hwk hw 194 rfl)) (ty := .int) (by decide)) SD VD S_Kind_EXIT S_Kind_ENTRY) hZ (hwk hw 5 rfl) (hwk hw 2 rfl) (by decide) (by decide)) (g := (mkF m 7 #[.val (.int p0), .val (.int p1), .val (.int p2), .val (.int p3), .val (.int p4), .val (.int p5), .unset, .unset, .unset, .unset, .unset, .unset, .unset, .unset, .unset, .unset] [(.int p2), (.int p1), (.int p0), (.ref b101), (.ref b101)])) rfl (by rw [hml]; rfl) (Steps.refl _) (a := b101) (argsL := [(.int p0), (.int p1), (.int p2)]) (rest := [(.ref b101)]) (lenOf pd_17 rfl) rfl (by show 2 * 0 + _ ≤ _; exact Nat.le_of_eq rfl) (hb hby at_7) (fun _ _ => ⟨rfl, e101, (by decide : 1 + 24 ≤ _), (by decide : 10 + 164 ≤ _)⟩)
  dsimp only [Pt.U, Pt.locs, Pt.cells, Pt.slots] at X103 l103 y103 z103 st103 hQ103 hs103' hg103'
  subst l103 y103 z103
  obtain ⟨X103b, hS103, hZ103, hown103⟩ := rebS hS0 (show _ ≤ T101.heap.size from by rw [e101]; exact (Nat.le_trans (Nat.le_refl _) (Nat.le_trans (Nat.le_refl _) E101.1))) X103 hs103' hg103' hZ hown
  unfold Q_rm1 at hQ103
  obtain ⟨l_103, e_103, t_103, k_103, rfl, N103q, K103, ge_l_103, ge_e_103, ge_t_103, f103_0, f103_1, f103_2, f103_3, f103_4, f103_5, f103_6, f103_7, f103_8, f103_9, f103_10, f103_11⟩ := hQ103
  have N103 := Fr.app N0 N103q
  have g_l_103 : n0 ≤ l_103 := Nat.le_trans (old_le O102) ge_l_103
  have g_e_103 : n0 ≤ e_103 := Nat.le_trans (old_le O102) ge_e_103
  have g_t_103 : n0 ≤ t_103 := Nat.le_trans (old_le O102) ge_t_103
  have S105 : ∀ t, Steps p.tables e below (T103.setTop (mkF m 16 #[.val (.int p0), .val (.int p1), .val (.int p2), .val (.int p3), .val (.int p4), .val (.int p5), .val (.ref b101), .unset, .unset, .unset, .unset, .unset, .unset, .unset, .unset, .unset] [(.int (p5 &&& (1 : Int32)))])) t → Steps p.tables e below (s₁.setTop (entryFrame m #[(.int p0), (.int p1), (.int p2), (.int p3), (.int p4), (.int p5)] maxLocals)) t := fun t k => by
    refine pre0 t ?_
    show Steps p.tables e below (s₁.setTop (mkF m 0 #[.val (.int p0), .val (.int p1), .val (.int p2), .val (.int p3), .val (.int p4), .val (.int p5), .unset, .unset, .unset, .unset, .unset, .unset, .unset, .unset, .unset, .unset] [])) _
    refine st101 _ ?_
    show Steps p.tables e below (T101.setTop (mkF m 3 #[.val (.int p0), .val (.int p1), .val (.int p2), .val (.int p3), .val (.int p4), .val (.int p5), .unset, .unset, .unset, .unset, .unset, .unset, .unset, .unset, .unset, .unset] [(.ref b101)])) _
    refine XS.dup X101.here hx rfl (hb hby at_3) rfl rfl ?_
    show Steps p.tables e below (T101.setTop (mkF m 4 #[.val (.int p0), .val (.int p1), .val (.int p2), .val (.int p3), .val (.int p4), .val (.int p5), .unset, .unset, .unset, .unset, .unset, .unset, .unset, .unset, .unset, .unset] [(.ref b101), (.ref b101)])) _
    refine XS.iloadN X101.here hx rfl (hb hby at_4) rfl ?_
    refine XS.iloadN X101.here hx rfl (hb hby at_5) rfl ?_
    refine XS.iloadN X101.here hx rfl (hb hby at_6) rfl ?_
    show Steps p.tables e below (T101.setTop (mkF m 7 #[.val (.int p0), .val (.int p1), .val (.int p2), .val (.int p3), .val (.int p4), .val (.int p5), .unset, .unset, .unset, .unset, .unset, .unset, .unset, .unset, .unset, .unset] [(.int p2), (.int p1), (.int p0), (.ref b101), (.ref b101)])) _
    refine st103.trans ?_
    show Steps p.tables e below (T103.setTop (mkF m 10 #[.val (.int p0), .val (.int p1), .val (.int p2), .val (.int p3), .val (.int p4), .val (.int p5), .unset, .unset, .unset, .unset, .unset, .unset, .unset, .unset, .unset, .unset] [(.ref b101)])) _
    refine XS.astore X103b.here hx rfl (hb hby at_10) rfl rfl (l' := #[.val (.int p0), .val (.int p1), .val (.int p2), .val (.int p3), .val (.int p4), .val (.int p5), .val (.ref b101), .unset, .unset, .unset, .unset, .unset, .unset, .unset, .unset, .unset]) rfl ?_
    show Steps p.tables e below (T103.setTop (mkF m 12 #[.val (.int p0), .val (.int p1), .val (.int p2), .val (.int p3), .val (.int p4), .val (.int p5), .val (.ref b101), .unset, .unset, .unset, .unset, .unset, .unset, .unset, .unset, .unset] [])) _
    refine XS.iload X103b.here hx rfl (hb hby at_12) rfl ?_
    refine XS.iconst X103b.here hx rfl (hb hby at_14) ?_
    refine XS.iand X103b.here hx rfl (hb hby at_15) rfl ?_
    exact k
  by_cases hc104 : (p5 &&& (1 : Int32)) = (0 : Int32)
  · have S107 : ∀ t, Steps p.tables e below (T103.setTop (mkF m 30 #[.val (.int p0), .val (.int p1), .val (.int p2), .val (.int p3), .val (.int p4), .val (.int p5), .val (.ref b101), .val (.int (0 : Int32)), .unset, .unset, .unset, .unset, .unset, .unset, .unset, .unset] [(.int (p5 &&& (2 : Int32)))])) t → Steps p.tables e below (s₁.setTop (entryFrame m #[(.int p0), (.int p1), (.int p2), (.int p3), (.int p4), (.int p5)] maxLocals)) t := fun t k => by
      refine S105 t ?_
      show Steps p.tables e below (T103.setTop (mkF m 16 #[.val (.int p0), .val (.int p1), .val (.int p2), .val (.int p3), .val (.int p4), .val (.int p5), .val (.ref b101), .unset, .unset, .unset, .unset, .unset, .unset, .unset, .unset, .unset] [(.int (p5 &&& (1 : Int32)))])) _
      refine XS.ifYes X103b.here hx rfl (pc0 := 16) (pc' := 23) rfl (hb hby at_16) rfl ((if0 _ _).trans (teq hc104).1) (by decide) (by decide) ?_
      show Steps p.tables e below (T103.setTop (mkF m 23 #[.val (.int p0), .val (.int p1), .val (.int p2), .val (.int p3), .val (.int p4), .val (.int p5), .val (.ref b101), .unset, .unset, .unset, .unset, .unset, .unset, .unset, .unset, .unset] [])) _
      refine XS.iconst X103b.here hx rfl (hb hby at_23) ?_
      refine XS.istore X103b.here hx rfl (hb hby at_24) rfl (l' := #[.val (.int p0), .val (.int p1), .val (.int p2), .val (.int p3), .val (.int p4), .val (.int p5), .val (.ref b101), .val (.int (0 : Int32)), .unset, .unset, .unset, .unset, .unset, .unset, .unset, .unset]) rfl ?_
      show Steps p.tables e below (T103.setTop (mkF m 26 #[.val (.int p0), .val (.int p1), .val (.int p2), .val (.int p3), .val (.int p4), .val (.int p5), .val (.ref b101), .val (.int (0 : Int32)), .unset, .unset, .unset, .unset, .unset, .unset, .unset, .unset] [])) _
      refine XS.iload X103b.here hx rfl (hb hby at_26) rfl ?_
      refine XS.iconst X103b.here hx rfl (hb hby at_28) ?_
      refine XS.iand X103b.here hx rfl (hb hby at_29) rfl ?_
      exact k
    by_cases hc106 : (p5 &&& (2 : Int32)) = (0 : Int32)
    · have S108 : ∀ t, Steps p.tables e below (T103.setTop (mkF m 44 #[.val (.int p0), .val (.int p1), .val (.int p2), .val (.int p3), .val (.int p4), .val (.int p5), .val (.ref b101), .val (.int (0 : Int32)), .val (.int (0 : Int32)), .unset, .unset, .unset, .unset, .unset, .unset, .unset] [(.int (p5 &&& (4 : Int32)))])) t → Steps p.tables e below (s₁.setTop (entryFrame m #[(.int p0), (.int p1), (.int p2), (.int p3), (.int p4), (.int p5)] maxLocals)) t := fun t k => by
        refine S107 t ?_
        show Steps p.tables e below (T103.setTop (mkF m 30 #[.val (.int p0), .val (.int p1), .val (.int p2), .val (.int p3), .val (.int p4), .val (.int p5), .val (.ref b101), .val (.int (0 : Int32)), .unset, .unset, .unset, .unset, .unset, .unset, .unset, .unset] [(.int (p5 &&& (2 : Int32)))])) _
        refine XS.ifYes X103b.here hx rfl (pc0 := 30) (pc' := 37) rfl (hb hby at_30) rfl ((if0 _ _).trans (teq hc106).1) (by decide) (by decide) ?_
        show Steps p.tables e below (T103.setTop (mkF m 37 #[.val (.int p0), .val (.int p1), .val (.int p2), .val (.int p3), .val (.int p4), .val (.int p5), .val (.ref b101), .val (.int (0 : Int32)), .unset, .unset, .unset, .unset, .unset, .unset, .unset, .unset] [])) _
        refine XS.iconst X103b.here hx rfl (hb hby at_37) ?_
        refine XS.istore X103b.here hx rfl (hb hby at_38) rfl (l' := #[.val (.int p0), .val (.int p1), .val (.int p2), .val (.int p3), .val (.int p4), .val (.int p5), .val (.ref b101), .val (.int (0 : Int32)), .val (.int (0 : Int32)), .unset, .unset, .unset, .unset, .unset, .unset, .unset]) rfl ?_
        show Steps p.tables e below (T103.setTop (mkF m 40 #[.val (.int p0), .val (.int p1), .val (.int p2), .val (.int p3), .val (.int p4), .val (.int p5), .val (.ref b101), .val (.int (0 : Int32)), .val (.int (0 : Int32)), .unset, .unset, .unset, .unset, .unset, .unset, .unset] [])) _
        refine XS.iload X103b.here hx rfl (hb hby at_40) rfl ?_
        refine XS.iconst X103b.here hx rfl (hb hby at_42) ?_
        refine XS.iand X103b.here hx rfl (hb hby at_43) rfl ?_
        exact k
      obtain ⟨T110, h110, vm110, k110, v110, Lj110, X110, Nj110, e110, K110, hS110, hk110, hZ110, hown110, hv110, Mj110, S110⟩ : ∃ (T' : State) (h' : Heap) (vm' : Vm) (k' : Nat) (v110 : Value) (L' : List Loc), JoinStand X103b (s.setVm vm') T' L' 2 5 ∧ Fr n0 L' ∧ T'.heap = h' ∧ Keep T103.heap h' [] ∧ s.Since vm' k' ∧ k' ≤ h'.size ∧ Z.Warmed39 (s.setVm vm').vm ∧ (s.setVm vm').vm.findClass "com/example/fixlore/fixlore/lang/GraphBuilderSuspendPinLaw" = some m.cls ∧ v110.isRef = true ∧ OptExa Z h' v110 "java/lang/String" ∧ ∀ t, Steps p.tables e below (T'.setTop (mkF m 64 #[.val (.int p0), .val (.int p1), .val (.int p2), .val (.int p3), .val (.int p4), .val (.int p5), .val (.ref b101), .val (.int (0 : Int32)), .val (.int (0 : Int32)), .unset, .unset, .unset, .unset, .unset, .unset, .unset] [v110])) t → Steps p.tables e below (s₁.setTop (entryFrame m #[(.int p0), (.int p1), (.int p2), (.int p3), (.int p4), (.int p5)] maxLocals)) t := by
        by_cases hc109 : (p5 &&& (4 : Int32)) = (0 : Int32)
        · refine ⟨T103, _, _, _, .null, [], own_jn (X103b.more (by decide) (by decide)), Fr.nil n0, rfl, (Keep.refl _ []), hS103, (Nat.le_refl _), hZ103, hown103, rfl, own_mnull, fun t k => ?_⟩
          refine S108 t ?_
          show Steps p.tables e below (T103.setTop (mkF m 44 #[.val (.int p0), .val (.int p1), .val (.int p2), .val (.int p3), .val (.int p4), .val (.int p5), .val (.ref b101), .val (.int (0 : Int32)), .val (.int (0 : Int32)), .unset, .unset, .unset, .unset, .unset, .unset, .unset] [(.int (p5 &&& (4 : Int32)))])) _
          refine XS.ifYes X103b.here hx rfl (pc0 := 44) (pc' := 63) rfl (hb hby at_44) rfl ((if0 _ _).trans (teq hc109).1) (by decide) (by decide) ?_
          show Steps p.tables e below (T103.setTop (mkF m 63 #[.val (.int p0), .val (.int p1), .val (.int p2), .val (.int p3), .val (.int p4), .val (.int p5), .val (.ref b101), .val (.int (0 : Int32)), .val (.int (0 : Int32)), .unset, .unset, .unset, .unset, .unset, .unset, .unset] [])) _
          refine XS.aconstNull X103b.here hx rfl (hb hby at_63) ?_
          exact k
        · have O111 : Old Z n0 T103.heap := Old.keep O102 K103 (allS g_b101 all0)
          obtain ⟨_, _, ⟨T112, L112, k112, n112⟩, -, X112, ⟨Lc112, hQ112, l112, y112, z112⟩, st112⟩ := Jvm.LawKit.callS X103b hx (y := (⟨"java/lang/String", "valueOf", "(C)Ljava/lang/String;"⟩ : MethodName)) hown103 (mvT hZ103 (hwk hw 266 rfl)) (mvT hZ103 (hwk hw 267 rfl)) (mvT hZ103 (hwk hw 102 rfl)) (mvT hZ103 (hwk hw 268 rfl)) (by decide) (backOf (W := 0) (rm32 l Z a0 hw [] ((((p5.toUInt32 >>> ((8 : Int32) &&& 31).toUInt32).toInt32) &&& (255 : Int32)).toUInt32.toUInt16.toUInt32.toInt32) zc T103.heap n0 O111 SZ PZ (own_chm _)) hZ103 (hwk hw 268 rfl) (hwk hw 102 rfl) (by decide) (by decide)) (g := (mkF m 57 #[.val (.int p0), .val (.int p1), .val (.int p2), .val (.int p3), .val (.int p4), .val (.int p5), .val (.ref b101), .val (.int (0 : Int32)), .val (.int (0 : Int32)), .unset, .unset, .unset, .unset, .unset, .unset, .unset] [(.int ((((p5.toUInt32 >>> ((8 : Int32) &&& 31).toUInt32).toInt32) &&& (255 : Int32)).toUInt32.toUInt16.toUInt32.toInt32))])) rfl (by rw [hml]; rfl) (argsL := [(.int ((((p5.toUInt32 >>> ((8 : Int32) &&& 31).toUInt32).toInt32) &&& (255 : Int32)).toUInt32.toUInt16.toUInt32.toInt32))]) (rest := []) (lenOf pd_18 rfl) rfl (by show 2 * 0 + _ ≤ _; exact Nat.le_of_eq rfl) (hb hby at_57) (fun _ _ => ⟨rfl, (rfl : T103.heap = T103.heap), (by decide : 25 + 2 ≤ _), (by decide : 174 + 5 ≤ _)⟩)
          dsimp only [Pt.U, Pt.locs, Pt.cells, Pt.slots] at X112 l112 y112 z112 st112 hQ112
          subst l112 y112 z112
          unfold Q_rm32 at hQ112
          obtain ⟨b_112, t_112, k_112, rfl, N112q, K112, ge_b_112, ge_t_112, f112_0, f112_1, f112_2, f112_3, f112_4⟩ := hQ112
          have N112 := Fr.app N103 N112q
          have g_b_112 : n0 ≤ b_112 := Nat.le_trans (old_le O111) ge_b_112
          have g_t_112 : n0 ≤ t_112 := Nat.le_trans (old_le O111) ge_t_112
          refine ⟨T112, _, _, _, (.ref b_112), Lc112, X112.more (by decide) (by decide), N112q, rfl, (Keep.trans (Keep.refl _ []) K112 all0), hS103, (Nat.le_trans (Nat.le_refl _) (Nat.le_trans (Nat.le_refl _) K112.1)), hZ103, hown103, rfl, (own_mref f112_0), fun t k => ?_⟩
          refine S108 t ?_
          show Steps p.tables e below (T103.setTop (mkF m 44 #[.val (.int p0), .val (.int p1), .val (.int p2), .val (.int p3), .val (.int p4), .val (.int p5), .val (.ref b101), .val (.int (0 : Int32)), .val (.int (0 : Int32)), .unset, .unset, .unset, .unset, .unset, .unset, .unset] [(.int (p5 &&& (4 : Int32)))])) _
          refine XS.ifNo X103b.here hx rfl (hb hby at_44) rfl ((if0 _ _).trans (feq hc109).1) ?_
          show Steps p.tables e below (T103.setTop (mkF m 47 #[.val (.int p0), .val (.int p1), .val (.int p2), .val (.int p3), .val (.int p4), .val (.int p5), .val (.ref b101), .val (.int (0 : Int32)), .val (.int (0 : Int32)), .unset, .unset, .unset, .unset, .unset, .unset, .unset] [])) _
          refine XS.iload X103b.here hx rfl (hb hby at_47) rfl ?_
          refine XS.bipush X103b.here hx rfl (hb hby at_49) ?_
          refine XS.iushr X103b.here hx rfl (hb hby at_51) rfl ?_
          show Steps p.tables e below (T103.setTop (mkF m 52 #[.val (.int p0), .val (.int p1), .val (.int p2), .val (.int p3), .val (.int p4), .val (.int p5), .val (.ref b101), .val (.int (0 : Int32)), .val (.int (0 : Int32)), .unset, .unset, .unset, .unset, .unset, .unset, .unset] [(.int ((p5.toUInt32 >>> ((8 : Int32) &&& 31).toUInt32).toInt32))])) _
          refine XS.sipush X103b.here hx rfl (hb hby at_52) ?_
          refine XS.iand X103b.here hx rfl (hb hby at_55) rfl ?_
          show Steps p.tables e below (T103.setTop (mkF m 56 #[.val (.int p0), .val (.int p1), .val (.int p2), .val (.int p3), .val (.int p4), .val (.int p5), .val (.ref b101), .val (.int (0 : Int32)), .val (.int (0 : Int32)), .unset, .unset, .unset, .unset, .unset, .unset, .unset] [(.int (((p5.toUInt32 >>> ((8 : Int32) &&& 31).toUInt32).toInt32) &&& (255 : Int32)))])) _
          refine XS.i2c X103b.here hx rfl (hb hby at_56) rfl ?_
          show Steps p.tables e below (T103.setTop (mkF m 57 #[.val (.int p0), .val (.int p1), .val (.int p2), .val (.int p3), .val (.int p4), .val (.int p5), .val (.ref b101), .val (.int (0 : Int32)), .val (.int (0 : Int32)), .unset, .unset, .unset, .unset, .unset, .unset, .unset] [(.int ((((p5.toUInt32 >>> ((8 : Int32) &&& 31).toUInt32).toInt32) &&& (255 : Int32)).toUInt32.toUInt16.toUInt32.toInt32))])) _
          refine st112 _ ?_
          show Steps p.tables e below (T112.setTop (mkF m 60 #[.val (.int p0), .val (.int p1), .val (.int p2), .val (.int p3), .val (.int p4), .val (.int p5), .val (.ref b101), .val (.int (0 : Int32)), .val (.int (0 : Int32)), .unset, .unset, .unset, .unset, .unset, .unset, .unset] [(.ref b_112)])) _
          refine XS.goto X112.here hx rfl (pc0 := 60) (pc' := 64) rfl (hb hby at_60) (by decide) (by decide) ?_
          exact k
      unfold JoinStand at X110
      have N110 := Fr.app N103 Nj110
      have S113 : ∀ t, Steps p.tables e below (T110.setTop (mkF m 71 #[.val (.int p0), .val (.int p1), .val (.int p2), .val (.int p3), .val (.int p4), .val (.int p5), .val (.ref b101), .val (.int (0 : Int32)), .val (.int (0 : Int32)), .val v110, .unset, .unset, .unset, .unset, .unset, .unset] [(.int (p5 &&& (8 : Int32)))])) t → Steps p.tables e below (s₁.setTop (entryFrame m #[(.int p0), (.int p1), (.int p2), (.int p3), (.int p4), (.int p5)] maxLocals)) t := fun t k => by
        refine S110 t ?_
        show Steps p.tables e below (T110.setTop (mkF m 64 #[.val (.int p0), .val (.int p1), .val (.int p2), .val (.int p3), .val (.int p4), .val (.int p5), .val (.ref b101), .val (.int (0 : Int32)), .val (.int (0 : Int32)), .unset, .unset, .unset, .unset, .unset, .unset, .unset] [v110])) _
        refine XS.astore X110.here hx rfl (hb hby at_64) rfl hv110 (l' := #[.val (.int p0), .val (.int p1), .val (.int p2), .val (.int p3), .val (.int p4), .val (.int p5), .val (.ref b101), .val (.int (0 : Int32)), .val (.int (0 : Int32)), .val v110, .unset, .unset, .unset, .unset, .unset, .unset]) (XS.store1 (o := .unset) rfl (Or.inl rfl) (XT.cat1 hv110)) ?_
        show Steps p.tables e below (T110.setTop (mkF m 66 #[.val (.int p0), .val (.int p1), .val (.int p2), .val (.int p3), .val (.int p4), .val (.int p5), .val (.ref b101), .val (.int (0 : Int32)), .val (.int (0 : Int32)), .val v110, .unset, .unset, .unset, .unset, .unset, .unset] [])) _
        refine XS.iload X110.here hx rfl (hb hby at_66) rfl ?_
        refine XS.bipush X110.here hx rfl (hb hby at_68) ?_
        refine XS.iand X110.here hx rfl (hb hby at_70) rfl ?_
        exact k
      obtain ⟨T115, h115, vm115, k115, v115, Lj115, X115, Nj115, e115, K115, hS115, hk115, hZ115, hown115, hv115, Mj115, S115⟩ : ∃ (T' : State) (h' : Heap) (vm' : Vm) (k' : Nat) (v115 : Value) (L' : List Loc), JoinStand X110 (s.setVm vm') T' L' 2 5 ∧ Fr n0 L' ∧ T'.heap = h' ∧ Keep h110 h' [] ∧ s.Since vm' k' ∧ k' ≤ h'.size ∧ Z.Warmed39 (s.setVm vm').vm ∧ (s.setVm vm').vm.findClass "com/example/fixlore/fixlore/lang/GraphBuilderSuspendPinLaw" = some m.cls ∧ v115.isRef = true ∧ OptExa Z h' v115 "java/lang/String" ∧ ∀ t, Steps p.tables e below (T'.setTop (mkF m 91 #[.val (.int p0), .val (.int p1), .val (.int p2), .val (.int p3), .val (.int p4), .val (.int p5), .val (.ref b101), .val (.int (0 : Int32)), .val (.int (0 : Int32)), .val v110, .unset, .unset, .unset, .unset, .unset, .unset] [v115])) t → Steps p.tables e below (s₁.setTop (entryFrame m #[(.int p0), (.int p1), (.int p2), (.int p3), (.int p4), (.int p5)] maxLocals)) t := by
        by_cases hc114 : (p5 &&& (8 : Int32)) = (0 : Int32)
        · refine ⟨T110, _, _, _, .null, [], own_jn (X110.more (by decide) (by decide)), Fr.nil n0, e110, (Keep.refl _ []), hS110, hk110, hZ110, hown110, rfl, own_mnull, fun t k => ?_⟩
          refine S113 t ?_
          show Steps p.tables e below (T110.setTop (mkF m 71 #[.val (.int p0), .val (.int p1), .val (.int p2), .val (.int p3), .val (.int p4), .val (.int p5), .val (.ref b101), .val (.int (0 : Int32)), .val (.int (0 : Int32)), .val v110, .unset, .unset, .unset, .unset, .unset, .unset] [(.int (p5 &&& (8 : Int32)))])) _
          refine XS.ifYes X110.here hx rfl (pc0 := 71) (pc' := 90) rfl (hb hby at_71) rfl ((if0 _ _).trans (teq hc114).1) (by decide) (by decide) ?_
          show Steps p.tables e below (T110.setTop (mkF m 90 #[.val (.int p0), .val (.int p1), .val (.int p2), .val (.int p3), .val (.int p4), .val (.int p5), .val (.ref b101), .val (.int (0 : Int32)), .val (.int (0 : Int32)), .val v110, .unset, .unset, .unset, .unset, .unset, .unset] [])) _
          refine XS.aconstNull X110.here hx rfl (hb hby at_90) ?_
          exact k
        · have O116 : Old Z n0 T103.heap := Old.keep O102 K103 (allS g_b101 all0)
          have O117 : Old Z n0 h110 := Old.keep O116 K110 all0
          obtain ⟨_, _, ⟨T118, L118, k118, n118⟩, -, X118, ⟨Lc118, hQ118, l118, y118, z118⟩, st118⟩ := Jvm.LawKit.callS X110 hx (y := (⟨"java/lang/String", "valueOf", "(C)Ljava/lang/String;"⟩ : MethodName)) hown110 (mvT hZ110 (hwk hw 266 rfl)) (mvT hZ110 (hwk hw 267 rfl)) (mvT hZ110 (hwk hw 102 rfl)) (mvT hZ110 (hwk hw 268 rfl)) (by decide) (backOf (W := 0) (rm32 l Z a0 hw [] ((((p5.toUInt32 >>> ((16 : Int32) &&& 31).toUInt32).toInt32) &&& (255 : Int32)).toUInt32.toUInt16.toUInt32.toInt32) zc h110 n0 O117 SZ PZ (own_chm _)) hZ110 (hwk hw 268 rfl) (hwk hw 102 rfl) (by decide) (by decide)) (g := (mkF m 84 #[.val (.int p0), .val (.int p1), .val (.int p2), .val (.int p3), .val (.int p4), .val (.int p5), .val (.ref b101), .val (.int (0 : Int32)), .val (.int (0 : Int32)), .val v110, .unset, .unset, .unset, .unset, .unset, .unset] [(.int ((((p5.toUInt32 >>> ((16 : Int32) &&& 31).toUInt32).toInt32) &&& (255 : Int32)).toUInt32.toUInt16.toUInt32.toInt32))])) rfl (by rw [hml]; rfl) (argsL := [(.int ((((p5.toUInt32 >>> ((16 : Int32) &&& 31).toUInt32).toInt32) &&& (255 : Int32)).toUInt32.toUInt16.toUInt32.toInt32))]) (rest := []) (lenOf pd_18 rfl) rfl (by show 2 * 0 + _ ≤ _; exact Nat.le_of_eq rfl) (hb hby at_84) (fun _ _ => ⟨rfl, e110, (by decide : 27 + 2 ≤ _), (by decide : 179 + 5 ≤ _)⟩)
          dsimp only [Pt.U, Pt.locs, Pt.cells, Pt.slots] at X118 l118 y118 z118 st118 hQ118
          subst l118 y118 z118
          unfold Q_rm32 at hQ118
          obtain ⟨b_118, t_118, k_118, rfl, N118q, K118, ge_b_118, ge_t_118, f118_0, f118_1, f118_2, f118_3, f118_4⟩ := hQ118
          have N118 := Fr.app N110 N118q
          have g_b_118 : n0 ≤ b_118 := Nat.le_trans (old_le O117) ge_b_118
          have g_t_118 : n0 ≤ t_118 := Nat.le_trans (old_le O117) ge_t_118
          refine ⟨T118, _, _, _, (.ref b_118), Lc118, X118.more (by decide) (by decide), N118q, rfl, (Keep.trans (Keep.refl _ []) K118 all0), hS110, (Nat.le_trans hk110 (Nat.le_trans (Nat.le_refl _) K118.1)), hZ110, hown110, rfl, (own_mref f118_0), fun t k => ?_⟩
          refine S113 t ?_
          show Steps p.tables e below (T110.setTop (mkF m 71 #[.val (.int p0), .val (.int p1), .val (.int p2), .val (.int p3), .val (.int p4), .val (.int p5), .val (.ref b101), .val (.int (0 : Int32)), .val (.int (0 : Int32)), .val v110, .unset, .unset, .unset, .unset, .unset, .unset] [(.int (p5 &&& (8 : Int32)))])) _
          refine XS.ifNo X110.here hx rfl (hb hby at_71) rfl ((if0 _ _).trans (feq hc114).1) ?_
          show Steps p.tables e below (T110.setTop (mkF m 74 #[.val (.int p0), .val (.int p1), .val (.int p2), .val (.int p3), .val (.int p4), .val (.int p5), .val (.ref b101), .val (.int (0 : Int32)), .val (.int (0 : Int32)), .val v110, .unset, .unset, .unset, .unset, .unset, .unset] [])) _
          refine XS.iload X110.here hx rfl (hb hby at_74) rfl ?_
          refine XS.bipush X110.here hx rfl (hb hby at_76) ?_
          refine XS.iushr X110.here hx rfl (hb hby at_78) rfl ?_
          show Steps p.tables e below (T110.setTop (mkF m 79 #[.val (.int p0), .val (.int p1), .val (.int p2), .val (.int p3), .val (.int p4), .val (.int p5), .val (.ref b101), .val (.int (0 : Int32)), .val (.int (0 : Int32)), .val v110, .unset, .unset, .unset, .unset, .unset, .unset] [(.int ((p5.toUInt32 >>> ((16 : Int32) &&& 31).toUInt32).toInt32))])) _
          refine XS.sipush X110.here hx rfl (hb hby at_79) ?_
          refine XS.iand X110.here hx rfl (hb hby at_82) rfl ?_
          show Steps p.tables e below (T110.setTop (mkF m 83 #[.val (.int p0), .val (.int p1), .val (.int p2), .val (.int p3), .val (.int p4), .val (.int p5), .val (.ref b101), .val (.int (0 : Int32)), .val (.int (0 : Int32)), .val v110, .unset, .unset, .unset, .unset, .unset, .unset] [(.int (((p5.toUInt32 >>> ((16 : Int32) &&& 31).toUInt32).toInt32) &&& (255 : Int32)))])) _
          refine XS.i2c X110.here hx rfl (hb hby at_83) rfl ?_
          show Steps p.tables e below (T110.setTop (mkF m 84 #[.val (.int p0), .val (.int p1), .val (.int p2), .val (.int p3), .val (.int p4), .val (.int p5), .val (.ref b101), .val (.int (0 : Int32)), .val (.int (0 : Int32)), .val v110, .unset, .unset, .unset, .unset, .unset, .unset] [(.int ((((p5.toUInt32 >>> ((16 : Int32) &&& 31).toUInt32).toInt32) &&& (255 : Int32)).toUInt32.toUInt16.toUInt32.toInt32))])) _
          refine st118 _ ?_
          show Steps p.tables e below (T118.setTop (mkF m 87 #[.val (.int p0), .val (.int p1), .val (.int p2), .val (.int p3), .val (.int p4), .val (.int p5), .val (.ref b101), .val (.int (0 : Int32)), .val (.int (0 : Int32)), .val v110, .unset, .unset, .unset, .unset, .unset, .unset] [(.ref b_118)])) _
          refine XS.goto X118.here hx rfl (pc0 := 87) (pc' := 91) rfl (hb hby at_87) (by decide) (by decide) ?_
          exact k
      unfold JoinStand at X115
      have N115 := Fr.app N110 Nj115
      have c119 : Exa Z h115 b101 "com/example/fixlore/fixlore/lang/GraphBuilder" := (Exa.keep (Exa.keep f103_0 K110) K115)
      have c120 : Fld Z h115 b101 "com/example/fixlore/fixlore/lang/GraphBuilder" "pending" "Ljava/util/List;" (.ref l_103) := (Fld.keep (Fld.keep f103_1 K110 nin0) K115 nin0)
      have O121 : Old Z n0 T103.heap := Old.keep O102 K103 (allS g_b101 all0)
      have O122 : Old Z n0 h110 := Old.keep O121 K110 all0
      have O123 : Old Z n0 h115 := Old.keep O122 K115 all0
      obtain ⟨cq124, kq124, q124a, q124b, q124c⟩ := isOf hZ115 e115 c119
      obtain ⟨_, _, ⟨T124, L124, k124, n124⟩, -, X124, ⟨Lc124, hQ124, l124, y124, z124⟩, st124⟩ := X115.virtualBack hx (y := (⟨"com/example/fixlore/fixlore/lang/GraphBuilder", "suspend", "()Ljava/util/List;"⟩ : MethodName)) (z := (⟨"com/example/fixlore/fixlore/lang/GraphBuilder", "suspend", "()Ljava/util/List;"⟩ : MethodName)) hown115 (mvT hZ115 (hwk hw 223 rfl)) (mvT hZ115 (hwk hw 224 rfl)) (notFace_of_selects (args := #[]) (mvT hZ115 (hwk hw 226 rfl))) (mvT hZ115 (hwk hw 226 rfl)) (mvT hZ115 (hwk hw 225 rfl)) (by decide) (backOf (W := 0) (rm24 l Z a0 hw [] b101 l_103 wd h115 n0 O123 c119 g_b101 c120 SD) hZ115 (hwk hw 227 rfl) (hwk hw 2 rfl) (by decide) (by decide)) q124a q124c (g := (mkF m 122 #[.val (.int p0), .val (.int p1), .val (.int p2), .val (.int p3), .val (.int p4), .val (.int p5), .val (.ref b101), .val (.int (0 : Int32)), .val (.int (0 : Int32)), .val v110, .val v115, .unset, .unset, .unset, .unset, .unset] [(.ref b101)])) rfl (by rw [hml]; rfl) (Steps.refl _) (argsL := []) (rest := []) (lenOf pd_19 rfl) rfl (by show 2 * 0 + _ ≤ _; exact Nat.le_of_eq rfl) (hb hby at_122) (fun _ _ => ⟨rfl, e115, (by decide : 29 + 1 ≤ _), (by decide : 184 + 3 ≤ _)⟩)
      dsimp only [Pt.U, Pt.locs, Pt.cells, Pt.slots] at X124 l124 y124 z124 st124 hQ124
      subst l124 y124 z124
      unfold Q_rm24 at hQ124
      obtain ⟨l_124, rfl, N124q, K124, ge_l_124, f124_0, f124_1, f124_2, f124_3, f124_4, f124_5⟩ := hQ124
      have N124 := Fr.app N115 N124q
      have g_l_124 : n0 ≤ l_124 := Nat.le_trans (old_le O123) ge_l_124
      have c125 : Fld Z T124.heap l_103 "java/util/ArrayList" "size" "I" (.int (1 : Int32)) := (Fld.keep (Fld.keep (Fld.keep f103_4 K110 nin0) K115 nin0) K124 (ninS (ne_exa f103_2 f103_0 (by decide)) nin0))
      have O126 : Old Z n0 T124.heap := Old.keep O123 K124 (allS g_b101 all0)
      have c128 : Exa Z T124.heap l_103 "java/util/ArrayList" := (Exa.keep (Exa.keep (Exa.keep f103_2 K110) K115) K124)
      obtain ⟨cq127, kq127, q127a, q127b, q127c⟩ := isOf hZ115 (rfl : T124.heap = T124.heap) c128
      obtain ⟨_, _, ⟨T127, L127, k127, n127⟩, -, X127, ⟨Lc127, hQ127, l127, y127, z127⟩, st127⟩ := X124.interfaceBack hx (xi := (⟨"java/util/List", "size", "()I"⟩ : MethodName)) (y := (⟨"java/util/ArrayList", "size", "()I"⟩ : MethodName)) hown115 (mvT hZ115 (hwk hw 228 rfl)) (mvT hZ115 (hwk hw 183 rfl)) (mvT hZ115 (hwk hw 184 rfl)) (mvT hZ115 (hwk hw 185 rfl)) (mvT hZ115 (hwk hw 186 rfl)) (mvT hZ115 (hwk hw 187 rfl)) (mvT hZ115 (hwk hw 188 rfl)) (mvT hZ115 (hwk hw 155 rfl)) (by decide) (backOf (W := 0) (rm19 l Z a0 hw [] l_103 (1 : Int32) T124.heap n0 O126 c125) hZ115 (hwk hw 189 rfl) (hwk hw 11 rfl) (by decide) (by decide)) q127a q127b q127c (g := (mkF m 154 #[.val (.int p0), .val (.int p1), .val (.int p2), .val (.int p3), .val (.int p4), .val (.int p5), .val (.ref b101), .val (.int (0 : Int32)), .val (.int (0 : Int32)), .val v110, .val v115, .val (.ref l_103), .val (.int (1 : Int32)), .unset, .unset, .unset] [(.ref l_103)])) rfl (by rw [hml]; rfl) (Steps.refl _) (argsL := []) (rest := []) (lenOf pd_8 rfl) rfl (by show 2 * 0 + _ ≤ _; exact Nat.le_of_eq rfl) (hb hby at_154) (fun _ _ => ⟨rfl, (rfl : T124.heap = T124.heap), (by decide : 30 + 0 ≤ _), (by decide : 187 + 0 ≤ _)⟩)
      dsimp only [Pt.U, Pt.locs, Pt.cells, Pt.slots] at X127 l127 y127 z127 st127 hQ127
      subst l127 y127 z127
      unfold Q_rm19 at hQ127
      obtain ⟨rfl, N127q, e127⟩ := hQ127
      have N127 := Fr.app N124 N127q
      have c129 : Fld Z T124.heap l_103 "java/util/ArrayList" "elementData" "[Ljava/lang/Object;" (.ref t_103) := (Fld.keep (Fld.keep (Fld.keep f103_3 K110 nin0) K115 nin0) K124 (ninS (ne_exa f103_2 f103_0 (by decide)) nin0))
      have c130 : Arv Z T124.heap t_103 k_103 (.object "java/lang/Object") (10 : Int32) [(.ref e_103), .null, .null, .null, .null, .null, .null, .null, .null, .null] .null := (Arv.keep (Arv.keep (Arv.keep f103_6 K110 nin0) K115 nin0) K124 (ninS (Ne.symm (Exa.neArv f103_0 f103_6 (hwk hw 1 rfl))) nin0))
      obtain ⟨cq131, kq131, q131a, q131b, q131c⟩ := isOf hZ115 e127 c128
      obtain ⟨_, _, ⟨T131, L131, k131, n131⟩, -, X131, ⟨Lc131, hQ131, l131, y131, z131⟩, st131⟩ := X127.interfaceBack hx (xi := (⟨"java/util/List", "get", "(I)Ljava/lang/Object;"⟩ : MethodName)) (y := (⟨"java/util/ArrayList", "get", "(I)Ljava/lang/Object;"⟩ : MethodName)) hown115 (mvT hZ115 (hwk hw 229 rfl)) (mvT hZ115 (hwk hw 230 rfl)) (mvT hZ115 (hwk hw 231 rfl)) (mvT hZ115 (hwk hw 232 rfl)) (mvT hZ115 (hwk hw 233 rfl)) (mvT hZ115 (hwk hw 234 rfl)) (mvT hZ115 (hwk hw 235 rfl)) (mvT hZ115 (hwk hw 155 rfl)) (by decide) (backOf (W := 0) (rm25 l Z a0 hw [] l_103 (0 : Int32) (1 : Int32) t_103 k_103 ([(.ref e_103), .null, .null, .null, .null, .null, .null, .null, .null, .null]) e_103 T124.heap n0 O126 c128 c125 c129 c130 rfl (by decide) (by decide) (by decide)) hZ115 (hwk hw 236 rfl) (hwk hw 11 rfl) (by decide) (by decide)) q131a q131b q131c (g := (mkF m 169 #[.val (.int p0), .val (.int p1), .val (.int p2), .val (.int p3), .val (.int p4), .val (.int p5), .val (.ref b101), .val (.int (0 : Int32)), .val (.int (0 : Int32)), .val v110, .val v115, .val (.ref l_103), .val (.int (1 : Int32)), .unset, .unset, .unset] [(.int (0 : Int32)), (.ref l_103)])) rfl (by rw [hml]; rfl) (Steps.refl _) (argsL := [(.int (0 : Int32))]) (rest := []) (lenOf pd_11 rfl) rfl (by show 2 * 0 + _ ≤ _; exact Nat.le_of_eq rfl) (hb hby at_169) (fun _ _ => ⟨rfl, e127, (by decide : 30 + 0 ≤ _), (by decide : 187 + 0 ≤ _)⟩)
      dsimp only [Pt.U, Pt.locs, Pt.cells, Pt.slots] at X131 l131 y131 z131 st131 hQ131
      subst l131 y131 z131
      unfold Q_rm25 at hQ131
      obtain ⟨rfl, N131q, e131⟩ := hQ131
      have N131 := Fr.app N127 N131q
      have c132 : Exa Z T124.heap e_103 "com/example/fixlore/fixlore/lang/GraphBuilder$End" := (Exa.keep (Exa.keep (Exa.keep f103_8 K110) K115) K124)
      obtain ⟨T133, X133, e133, st133⟩ := castY X131 hx hZ115 hown115 (hwk hw 250 rfl) e131 (Ins.self c132) (g := (mkF m 174 #[.val (.int p0), .val (.int p1), .val (.int p2), .val (.int p3), .val (.int p4), .val (.int p5), .val (.ref b101), .val (.int (0 : Int32)), .val (.int (0 : Int32)), .val v110, .val v115, .val (.ref l_103), .val (.int (1 : Int32)), .unset, .unset, .unset] [(.ref e_103)])) rfl rfl (hb hby at_174)
      have c134 : Fld Z T124.heap e_103 "com/example/fixlore/fixlore/lang/GraphBuilder$End" "from" "I" (.int (0 : Int32)) := (Fld.keep (Fld.keep (Fld.keep f103_9 K110 nin0) K115 nin0) K124 (ninS (ne_exa f103_8 f103_0 (by decide)) nin0))
      have c135 : Fld Z T124.heap e_103 "com/example/fixlore/fixlore/lang/GraphBuilder$End" "branch" "Ljava/lang/String;" .null := (Fld.keep (Fld.keep (Fld.keep f103_10 K110 nin0) K115 nin0) K124 (ninS (ne_exa f103_8 f103_0 (by decide)) nin0))
      obtain ⟨_, _, ⟨T136, L136, k136, n136⟩, -, X136, ⟨Lc136, hQ136, l136, y136, z136⟩, st136⟩ := Jvm.LawKit.callS X133 hx (y := (⟨"com/example/fixlore/fixlore/lang/GraphBuilderSuspendPinLaw", "endIs", "(Lcom/example/fixlore/fixlore/lang/GraphBuilder$End;ILjava/lang/String;)Z"⟩ : MethodName)) hown115 (mvT hZ115 (hwk hw 252 rfl)) (mvT hZ115 (hwk hw 253 rfl)) (mvT hZ115 (hwk hw 254 rfl)) (mvT hZ115 (hwk hw 255 rfl)) (by decide) (backOf (W := 0) (rm29nb l Z a0 hw [] e_103 (0 : Int32) T124.heap n0 O126 c132 c134 c135) hZ115 (hwk hw 255 rfl) (hwk hw 254 rfl) (by decide) (by decide)) (g := (mkF m 179 #[.val (.int p0), .val (.int p1), .val (.int p2), .val (.int p3), .val (.int p4), .val (.int p5), .val (.ref b101), .val (.int (0 : Int32)), .val (.int (0 : Int32)), .val v110, .val v115, .val (.ref l_103), .val (.int (1 : Int32)), .unset, .unset, .unset] [.null, (.int (0 : Int32)), (.ref e_103)])) rfl (by rw [hml]; rfl) (argsL := [(.ref e_103), (.int (0 : Int32)), .null]) (rest := []) (lenOf pd_20 rfl) rfl (by show 2 * 0 + _ ≤ _; exact Nat.le_of_eq rfl) (hb hby at_179) (fun _ _ => ⟨rfl, e133, (by decide : 30 + 0 ≤ _), (by decide : 187 + 0 ≤ _)⟩)
      dsimp only [Pt.U, Pt.locs, Pt.cells, Pt.slots] at X136 l136 y136 z136 st136 hQ136
      subst l136 y136 z136
      unfold Q_rm29nb at hQ136
      obtain ⟨rfl, N136q, e136⟩ := hQ136
      have N136 := Fr.app N131 N136q
      obtain ⟨cq137, kq137, q137a, q137b, q137c⟩ := isOf hZ115 e136 f124_0
      obtain ⟨_, _, ⟨T137, L137, k137, n137⟩, -, X137, ⟨Lc137, hQ137, l137, y137, z137⟩, st137⟩ := X136.virtualBack hx (y := (⟨"com/example/fixlore/fixlore/lang/GraphBuilder", "suspend", "()Ljava/util/List;"⟩ : MethodName)) (z := (⟨"com/example/fixlore/fixlore/lang/GraphBuilder", "suspend", "()Ljava/util/List;"⟩ : MethodName)) hown115 (mvT hZ115 (hwk hw 223 rfl)) (mvT hZ115 (hwk hw 224 rfl)) (notFace_of_selects (args := #[]) (mvT hZ115 (hwk hw 226 rfl))) (mvT hZ115 (hwk hw 226 rfl)) (mvT hZ115 (hwk hw 225 rfl)) (by decide) (backOf (W := 0) (rm24 l Z a0 hw [] b101 l_124 wd T124.heap n0 O126 f124_0 g_b101 f124_1 SD) hZ115 (hwk hw 227 rfl) (hwk hw 2 rfl) (by decide) (by decide)) q137a q137c (g := (mkF m 252 #[.val (.int p0), .val (.int p1), .val (.int p2), .val (.int p3), .val (.int p4), .val (.int p5), .val (.ref b101), .val (.int (0 : Int32)), .val (.int (0 : Int32)), .val v110, .val v115, .val (.ref l_103), .val (.int (1 : Int32)), .val (.int (1 : Int32)), .unset, .unset] [(.ref b101)])) rfl (by rw [hml]; rfl) (Steps.refl _) (argsL := []) (rest := []) (lenOf pd_19 rfl) rfl (by show 2 * 0 + _ ≤ _; exact Nat.le_of_eq rfl) (hb hby at_252) (fun _ _ => ⟨rfl, e136, (by decide : 30 + 1 ≤ _), (by decide : 187 + 3 ≤ _)⟩)
      dsimp only [Pt.U, Pt.locs, Pt.cells, Pt.slots] at X137 l137 y137 z137 st137 hQ137
      subst l137 y137 z137
      unfold Q_rm24 at hQ137
      obtain ⟨l_137, rfl, N137q, K137, ge_l_137, f137_0, f137_1, f137_2, f137_3, f137_4, f137_5⟩ := hQ137
      have N137 := Fr.app N136 N137q
      have g_l_137 : n0 ≤ l_137 := Nat.le_trans (old_le O126) ge_l_137
      have c138 : Fld Z T137.heap l_124 "java/util/ArrayList" "size" "I" (.int (0 : Int32)) := (Fld.keep f124_4 K137 (ninS (ne_exa f124_2 f124_0 (by decide)) nin0))
      have O139 : Old Z n0 T137.heap := Old.keep O126 K137 (allS g_b101 all0)
      have c141 : Exa Z T137.heap l_124 "java/util/ArrayList" := (Exa.keep f124_2 K137)
      obtain ⟨cq140, kq140, q140a, q140b, q140c⟩ := isOf hZ115 (rfl : T137.heap = T137.heap) c141
      obtain ⟨_, _, ⟨T140, L140, k140, n140⟩, -, X140, ⟨Lc140, hQ140, l140, y140, z140⟩, st140⟩ := X137.interfaceBack hx (xi := (⟨"java/util/List", "size", "()I"⟩ : MethodName)) (y := (⟨"java/util/ArrayList", "size", "()I"⟩ : MethodName)) hown115 (mvT hZ115 (hwk hw 228 rfl)) (mvT hZ115 (hwk hw 183 rfl)) (mvT hZ115 (hwk hw 184 rfl)) (mvT hZ115 (hwk hw 185 rfl)) (mvT hZ115 (hwk hw 186 rfl)) (mvT hZ115 (hwk hw 187 rfl)) (mvT hZ115 (hwk hw 188 rfl)) (mvT hZ115 (hwk hw 155 rfl)) (by decide) (backOf (W := 0) (rm19 l Z a0 hw [] l_124 (0 : Int32) T137.heap n0 O139 c138) hZ115 (hwk hw 189 rfl) (hwk hw 11 rfl) (by decide) (by decide)) q140a q140b q140c (g := (mkF m 259 #[.val (.int p0), .val (.int p1), .val (.int p2), .val (.int p3), .val (.int p4), .val (.int p5), .val (.ref b101), .val (.int (0 : Int32)), .val (.int (0 : Int32)), .val v110, .val v115, .val (.ref l_103), .val (.int (1 : Int32)), .val (.int (1 : Int32)), .val (.ref l_124), .unset] [(.ref l_124)])) rfl (by rw [hml]; rfl) (Steps.refl _) (argsL := []) (rest := []) (lenOf pd_8 rfl) rfl (by show 2 * 0 + _ ≤ _; exact Nat.le_of_eq rfl) (hb hby at_259) (fun _ _ => ⟨rfl, (rfl : T137.heap = T137.heap), (by decide : 31 + 0 ≤ _), (by decide : 190 + 0 ≤ _)⟩)
      dsimp only [Pt.U, Pt.locs, Pt.cells, Pt.slots] at X140 l140 y140 z140 st140 hQ140
      subst l140 y140 z140
      unfold Q_rm19 at hQ140
      obtain ⟨rfl, N140q, e140⟩ := hQ140
      have N140 := Fr.app N137 N140q
      obtain ⟨cq142, kq142, q142a, q142b, q142c⟩ := isOf hZ115 e140 f137_0
      obtain ⟨_, _, ⟨T142, L142, k142, n142⟩, -, X142, ⟨Lc142, hQ142, l142, y142, z142⟩, st142⟩ := X140.virtualBack hx (y := (⟨"com/example/fixlore/fixlore/lang/GraphBuilder", "join", "(ILjava/lang/String;)V"⟩ : MethodName)) (z := (⟨"com/example/fixlore/fixlore/lang/GraphBuilder", "join", "(ILjava/lang/String;)V"⟩ : MethodName)) hown115 (mvT hZ115 (hwk hw 222 rfl)) (mvT hZ115 (hwk hw 201 rfl)) (notFace_of_selects (args := #[]) (mvT hZ115 (hwk hw 203 rfl))) (mvT hZ115 (hwk hw 203 rfl)) (mvT hZ115 (hwk hw 202 rfl)) (by decide) (backOf (W := 0) (rm21_0 l Z a0 hw [] b101 p4 v110 l_137 (0 : Int32) wd kd vd T137.heap n0 O139 f137_1 f137_2 f137_3 f137_4 f137_5 g_l_137 (ne_exa f137_0 f137_2 (by decide)) SD VD hv110) hZ115 (hwk hw 204 rfl) (hwk hw 2 rfl) (by decide) (by decide)) q142a q142c (g := (mkF m 275 #[.val (.int p0), .val (.int p1), .val (.int p2), .val (.int p3), .val (.int p4), .val (.int p5), .val (.ref b101), .val (.int (0 : Int32)), .val (.int (0 : Int32)), .val v110, .val v115, .val (.ref l_103), .val (.int (1 : Int32)), .val (.int (1 : Int32)), .val (.ref l_124), .unset] [v110, (.int p4), (.ref b101)])) rfl (by rw [hml]; rfl) (Steps.refl _) (argsL := [(.int p4), v110]) (rest := []) (lenOf pd_9 rfl) rfl (by show 2 * 0 + _ ≤ _; exact Nat.le_of_eq rfl) (hb hby at_275) (fun _ _ => ⟨rfl, e140, (by decide : 31 + 2 ≤ _), (by decide : 190 + 12 ≤ _)⟩)
      dsimp only [Pt.U, Pt.locs, Pt.cells, Pt.slots] at X142 l142 y142 z142 st142 hQ142
      subst l142 y142 z142
      unfold Q_rm21_0 at hQ142
      obtain ⟨e_142, t_142, k_142, rfl, N142q, K142, ge_e_142, ge_t_142, f142_0, f142_1, f142_2, f142_3, f142_4, f142_5, f142_6, f142_7, f142_8, f142_9⟩ := hQ142
      have N142 := Fr.app N140 N142q
      have g_e_142 : n0 ≤ e_142 := Nat.le_trans (old_le O139) ge_e_142
      have g_t_142 : n0 ≤ t_142 := Nat.le_trans (old_le O139) ge_t_142
      have c143 : Fld Z T142.heap l_103 "java/util/ArrayList" "size" "I" (.int (1 : Int32)) := (Fld.keep (Fld.keep c125 K137 (ninS (ne_exa f103_2 f103_0 (by decide)) nin0)) K142 (ninS (Nat.ne_of_lt (Nat.lt_of_lt_of_le (c128).lt ge_l_137)) nin0))
      have O144 : Old Z n0 T142.heap := Old.keep O139 K142 (allS g_l_137 all0)
      have c146 : Exa Z T142.heap l_103 "java/util/ArrayList" := (Exa.keep (Exa.keep c128 K137) K142)
      obtain ⟨cq145, kq145, q145a, q145b, q145c⟩ := isOf hZ115 (rfl : T142.heap = T142.heap) c146
      obtain ⟨_, _, ⟨T145, L145, k145, n145⟩, -, X145, ⟨Lc145, hQ145, l145, y145, z145⟩, st145⟩ := X142.interfaceBack hx (xi := (⟨"java/util/List", "size", "()I"⟩ : MethodName)) (y := (⟨"java/util/ArrayList", "size", "()I"⟩ : MethodName)) hown115 (mvT hZ115 (hwk hw 228 rfl)) (mvT hZ115 (hwk hw 183 rfl)) (mvT hZ115 (hwk hw 184 rfl)) (mvT hZ115 (hwk hw 185 rfl)) (mvT hZ115 (hwk hw 186 rfl)) (mvT hZ115 (hwk hw 187 rfl)) (mvT hZ115 (hwk hw 188 rfl)) (mvT hZ115 (hwk hw 155 rfl)) (by decide) (backOf (W := 0) (rm19 l Z a0 hw [] l_103 (1 : Int32) T142.heap n0 O144 c143) hZ115 (hwk hw 189 rfl) (hwk hw 11 rfl) (by decide) (by decide)) q145a q145b q145c (g := (mkF m 280 #[.val (.int p0), .val (.int p1), .val (.int p2), .val (.int p3), .val (.int p4), .val (.int p5), .val (.ref b101), .val (.int (0 : Int32)), .val (.int (0 : Int32)), .val v110, .val v115, .val (.ref l_103), .val (.int (1 : Int32)), .val (.int (1 : Int32)), .val (.ref l_124), .unset] [(.ref l_103)])) rfl (by rw [hml]; rfl) (Steps.refl _) (argsL := []) (rest := []) (lenOf pd_8 rfl) rfl (by show 2 * 0 + _ ≤ _; exact Nat.le_of_eq rfl) (hb hby at_280) (fun _ _ => ⟨rfl, (rfl : T142.heap = T142.heap), (by decide : 33 + 0 ≤ _), (by decide : 202 + 0 ≤ _)⟩)
      dsimp only [Pt.U, Pt.locs, Pt.cells, Pt.slots] at X145 l145 y145 z145 st145 hQ145
      subst l145 y145 z145
      unfold Q_rm19 at hQ145
      obtain ⟨rfl, N145q, e145⟩ := hQ145
      have N145 := Fr.app N142 N145q
      have c147 : Exa Z T142.heap b101 "com/example/fixlore/fixlore/lang/GraphBuilder" := (Exa.keep f137_0 K142)
      have c148 : Fld Z T142.heap b101 "com/example/fixlore/fixlore/lang/GraphBuilder" "pending" "Ljava/util/List;" (.ref l_137) := (Fld.keep f137_1 K142 (ninS (ne_exa f137_0 f137_2 (by decide)) nin0))
      obtain ⟨cq149, kq149, q149a, q149b, q149c⟩ := isOf hZ115 e145 c147
      obtain ⟨_, _, ⟨T149, L149, k149, n149⟩, -, X149, ⟨Lc149, hQ149, l149, y149, z149⟩, st149⟩ := X145.virtualBack hx (y := (⟨"com/example/fixlore/fixlore/lang/GraphBuilder", "suspend", "()Ljava/util/List;"⟩ : MethodName)) (z := (⟨"com/example/fixlore/fixlore/lang/GraphBuilder", "suspend", "()Ljava/util/List;"⟩ : MethodName)) hown115 (mvT hZ115 (hwk hw 223 rfl)) (mvT hZ115 (hwk hw 224 rfl)) (notFace_of_selects (args := #[]) (mvT hZ115 (hwk hw 226 rfl))) (mvT hZ115 (hwk hw 226 rfl)) (mvT hZ115 (hwk hw 225 rfl)) (by decide) (backOf (W := 0) (rm24 l Z a0 hw [] b101 l_137 wd T142.heap n0 O144 c147 g_b101 c148 SD) hZ115 (hwk hw 227 rfl) (hwk hw 2 rfl) (by decide) (by decide)) q149a q149c (g := (mkF m 294 #[.val (.int p0), .val (.int p1), .val (.int p2), .val (.int p3), .val (.int p4), .val (.int p5), .val (.ref b101), .val (.int (0 : Int32)), .val (.int (0 : Int32)), .val v110, .val v115, .val (.ref l_103), .val (.int (1 : Int32)), .val (.int (1 : Int32)), .val (.ref l_124), .unset] [(.ref b101)])) rfl (by rw [hml]; rfl) (Steps.refl _) (argsL := []) (rest := []) (lenOf pd_19 rfl) rfl (by show 2 * 0 + _ ≤ _; exact Nat.le_of_eq rfl) (hb hby at_294) (fun _ _ => ⟨rfl, e145, (by decide : 33 + 1 ≤ _), (by decide : 202 + 3 ≤ _)⟩)
      dsimp only [Pt.U, Pt.locs, Pt.cells, Pt.slots] at X149 l149 y149 z149 st149 hQ149
      subst l149 y149 z149
      unfold Q_rm24 at hQ149
      obtain ⟨l_149, rfl, N149q, K149, ge_l_149, f149_0, f149_1, f149_2, f149_3, f149_4, f149_5⟩ := hQ149
      have N149 := Fr.app N145 N149q
      have g_l_149 : n0 ≤ l_149 := Nat.le_trans (old_le O144) ge_l_149
      have c150 : Fld Z T149.heap l_137 "java/util/ArrayList" "size" "I" (.int (1 : Int32)) := (Fld.keep f142_2 K149 (ninS (ne_exa f137_2 f137_0 (by decide)) nin0))
      have O151 : Old Z n0 T149.heap := Old.keep O144 K149 (allS g_b101 all0)
      have c153 : Exa Z T149.heap l_137 "java/util/ArrayList" := (Exa.keep f142_0 K149)
      obtain ⟨cq152, kq152, q152a, q152b, q152c⟩ := isOf hZ115 (rfl : T149.heap = T149.heap) c153
      obtain ⟨_, _, ⟨T152, L152, k152, n152⟩, -, X152, ⟨Lc152, hQ152, l152, y152, z152⟩, st152⟩ := X149.interfaceBack hx (xi := (⟨"java/util/List", "size", "()I"⟩ : MethodName)) (y := (⟨"java/util/ArrayList", "size", "()I"⟩ : MethodName)) hown115 (mvT hZ115 (hwk hw 228 rfl)) (mvT hZ115 (hwk hw 183 rfl)) (mvT hZ115 (hwk hw 184 rfl)) (mvT hZ115 (hwk hw 185 rfl)) (mvT hZ115 (hwk hw 186 rfl)) (mvT hZ115 (hwk hw 187 rfl)) (mvT hZ115 (hwk hw 188 rfl)) (mvT hZ115 (hwk hw 155 rfl)) (by decide) (backOf (W := 0) (rm19 l Z a0 hw [] l_137 (1 : Int32) T149.heap n0 O151 c150) hZ115 (hwk hw 189 rfl) (hwk hw 11 rfl) (by decide) (by decide)) q152a q152b q152c (g := (mkF m 301 #[.val (.int p0), .val (.int p1), .val (.int p2), .val (.int p3), .val (.int p4), .val (.int p5), .val (.ref b101), .val (.int (0 : Int32)), .val (.int (0 : Int32)), .val v110, .val v115, .val (.ref l_103), .val (.int (1 : Int32)), .val (.int (1 : Int32)), .val (.ref l_124), .val (.ref l_137)] [(.ref l_137)])) rfl (by rw [hml]; rfl) (Steps.refl _) (argsL := []) (rest := []) (lenOf pd_8 rfl) rfl (by show 2 * 0 + _ ≤ _; exact Nat.le_of_eq rfl) (hb hby at_301) (fun _ _ => ⟨rfl, (rfl : T149.heap = T149.heap), (by decide : 34 + 0 ≤ _), (by decide : 205 + 0 ≤ _)⟩)
      dsimp only [Pt.U, Pt.locs, Pt.cells, Pt.slots] at X152 l152 y152 z152 st152 hQ152
      subst l152 y152 z152
      unfold Q_rm19 at hQ152
      obtain ⟨rfl, N152q, e152⟩ := hQ152
      have N152 := Fr.app N149 N152q
      have c154 : Fld Z T149.heap l_137 "java/util/ArrayList" "elementData" "[Ljava/lang/Object;" (.ref t_142) := (Fld.keep f142_1 K149 (ninS (ne_exa f137_2 f137_0 (by decide)) nin0))
      have c155 : Arv Z T149.heap t_142 k_142 (.object "java/lang/Object") (10 : Int32) [(.ref e_142), .null, .null, .null, .null, .null, .null, .null, .null, .null] .null := (Arv.keep f142_4 K149 (ninS (Ne.symm (Exa.neArv c147 f142_4 (hwk hw 1 rfl))) nin0))
      obtain ⟨cq156, kq156, q156a, q156b, q156c⟩ := isOf hZ115 e152 c153
      obtain ⟨_, _, ⟨T156, L156, k156, n156⟩, -, X156, ⟨Lc156, hQ156, l156, y156, z156⟩, st156⟩ := X152.interfaceBack hx (xi := (⟨"java/util/List", "get", "(I)Ljava/lang/Object;"⟩ : MethodName)) (y := (⟨"java/util/ArrayList", "get", "(I)Ljava/lang/Object;"⟩ : MethodName)) hown115 (mvT hZ115 (hwk hw 229 rfl)) (mvT hZ115 (hwk hw 230 rfl)) (mvT hZ115 (hwk hw 231 rfl)) (mvT hZ115 (hwk hw 232 rfl)) (mvT hZ115 (hwk hw 233 rfl)) (mvT hZ115 (hwk hw 234 rfl)) (mvT hZ115 (hwk hw 235 rfl)) (mvT hZ115 (hwk hw 155 rfl)) (by decide) (backOf (W := 0) (rm25 l Z a0 hw [] l_137 (0 : Int32) (1 : Int32) t_142 k_142 ([(.ref e_142), .null, .null, .null, .null, .null, .null, .null, .null, .null]) e_142 T149.heap n0 O151 c153 c150 c154 c155 rfl (by decide) (by decide) (by decide)) hZ115 (hwk hw 236 rfl) (hwk hw 11 rfl) (by decide) (by decide)) q156a q156b q156c (g := (mkF m 313 #[.val (.int p0), .val (.int p1), .val (.int p2), .val (.int p3), .val (.int p4), .val (.int p5), .val (.ref b101), .val (.int (0 : Int32)), .val (.int (0 : Int32)), .val v110, .val v115, .val (.ref l_103), .val (.int (1 : Int32)), .val (.int (1 : Int32)), .val (.ref l_124), .val (.ref l_137)] [(.int (0 : Int32)), (.ref l_137)])) rfl (by rw [hml]; rfl) (Steps.refl _) (argsL := [(.int (0 : Int32))]) (rest := []) (lenOf pd_11 rfl) rfl (by show 2 * 0 + _ ≤ _; exact Nat.le_of_eq rfl) (hb hby at_313) (fun _ _ => ⟨rfl, e152, (by decide : 34 + 0 ≤ _), (by decide : 205 + 0 ≤ _)⟩)
      dsimp only [Pt.U, Pt.locs, Pt.cells, Pt.slots] at X156 l156 y156 z156 st156 hQ156
      subst l156 y156 z156
      unfold Q_rm25 at hQ156
      obtain ⟨rfl, N156q, e156⟩ := hQ156
      have N156 := Fr.app N152 N156q
      have c157 : Exa Z T149.heap e_142 "com/example/fixlore/fixlore/lang/GraphBuilder$End" := (Exa.keep f142_6 K149)
      obtain ⟨T158, X158, e158, st158⟩ := castY X156 hx hZ115 hown115 (hwk hw 250 rfl) e156 (Ins.self c157) (g := (mkF m 318 #[.val (.int p0), .val (.int p1), .val (.int p2), .val (.int p3), .val (.int p4), .val (.int p5), .val (.ref b101), .val (.int (0 : Int32)), .val (.int (0 : Int32)), .val v110, .val v115, .val (.ref l_103), .val (.int (1 : Int32)), .val (.int (1 : Int32)), .val (.ref l_124), .val (.ref l_137)] [(.ref e_142)])) rfl rfl (hb hby at_318)
      have c159 : Fld Z T149.heap e_142 "com/example/fixlore/fixlore/lang/GraphBuilder$End" "from" "I" (.int p4) := (Fld.keep f142_7 K149 (ninS (ne_exa f142_6 c147 (by decide)) nin0))
      have c160 : Fld Z T149.heap e_142 "com/example/fixlore/fixlore/lang/GraphBuilder$End" "branch" "Ljava/lang/String;" v110 := (Fld.keep f142_8 K149 (ninS (ne_exa f142_6 c147 (by decide)) nin0))
      have c161 : OptExa Z T149.heap v110 "java/lang/String" := (own_mkeep K149 (own_mkeep K142 (own_mkeep K137 (own_mkeep K124 (own_mkeep K115 Mj110)))))
      obtain ⟨_, _, ⟨T162, L162, k162, n162⟩, -, X162, ⟨Lc162, hQ162, l162, y162, z162⟩, st162⟩ := Jvm.LawKit.callS X158 hx (y := (⟨"com/example/fixlore/fixlore/lang/GraphBuilderSuspendPinLaw", "endIs", "(Lcom/example/fixlore/fixlore/lang/GraphBuilder$End;ILjava/lang/String;)Z"⟩ : MethodName)) hown115 (mvT hZ115 (hwk hw 252 rfl)) (mvT hZ115 (hwk hw 253 rfl)) (mvT hZ115 (hwk hw 254 rfl)) (mvT hZ115 (hwk hw 255 rfl)) (by decide) (backOf (W := 0) (rm29 l Z a0 hw [] e_142 p4 v110 T149.heap n0 O151 c157 c159 c160 hv110 c161) hZ115 (hwk hw 255 rfl) (hwk hw 254 rfl) (by decide) (by decide)) (g := (mkF m 325 #[.val (.int p0), .val (.int p1), .val (.int p2), .val (.int p3), .val (.int p4), .val (.int p5), .val (.ref b101), .val (.int (0 : Int32)), .val (.int (0 : Int32)), .val v110, .val v115, .val (.ref l_103), .val (.int (1 : Int32)), .val (.int (1 : Int32)), .val (.ref l_124), .val (.ref l_137)] [v110, (.int p4), (.ref e_142)])) rfl (by rw [hml]; rfl) (argsL := [(.ref e_142), (.int p4), v110]) (rest := []) (lenOf pd_20 rfl) rfl (by show 2 * 0 + _ ≤ _; exact Nat.le_of_eq rfl) (hb hby at_325) (fun _ _ => ⟨rfl, e158, (by decide : 34 + 0 ≤ _), (by decide : 205 + 0 ≤ _)⟩)
      dsimp only [Pt.U, Pt.locs, Pt.cells, Pt.slots] at X162 l162 y162 z162 st162 hQ162
      subst l162 y162 z162
      unfold Q_rm29 at hQ162
      obtain ⟨rfl, N162q, e162⟩ := hQ162
      have N162 := Fr.app N156 N162q
      have K163 : Keep h0 h101 [] := Keep.ext (Keep.refl h0 []) E101
      have K164 : Keep h0 T103.heap [] := Keep.trans K163 K103 (allS (Or.inr (Nat.le_trans (Nat.le_refl _) (Nat.le_of_eq g101.symm))) all0)
      have K165 : Keep h0 h110 [] := Keep.trans K164 K110 all0
      have K166 : Keep h0 h115 [] := Keep.trans K165 K115 all0
      have K167 : Keep h0 T124.heap [] := Keep.trans K166 K124 (allS (Or.inr (Nat.le_trans (Nat.le_refl _) (Nat.le_of_eq g101.symm))) all0)
      have K168 : Keep h0 T137.heap [] := Keep.trans K167 K137 (allS (Or.inr (Nat.le_trans (Nat.le_refl _) (Nat.le_of_eq g101.symm))) all0)
      have K169 : Keep h0 T142.heap [] := Keep.trans K168 K142 (allS (Or.inr (Nat.le_trans (Nat.le_trans (Nat.le_trans (Nat.le_trans (Nat.le_trans (Nat.le_trans (Nat.le_refl _) E101.1) K103.1) K110.1) K115.1) K124.1) ge_l_137)) all0)
      have K170 : Keep h0 T149.heap [] := Keep.trans K169 K149 (allS (Or.inr (Nat.le_trans (Nat.le_refl _) (Nat.le_of_eq g101.symm))) all0)
      obtain ⟨fs, hr, hrun, hended, hRE⟩ := X162.leaveW hS115 (show _ ≤ T162.heap.size from by rw [e162]; exact (Nat.le_trans hk115 (Nat.le_trans (Nat.le_trans (Nat.le_trans (Nat.le_trans (Nat.le_refl _) K124.1) K137.1) K142.1) K149.1))) (v := some (.int (1 : Int32))) (fun h => by rw [Bd.returns] at h; cases h)
      refine ⟨_, _, S115 _ ?_, hrun, hended, _, _, rfl, ?_, hRE.1, hRE.2.1, hRE.2.2.1, hRE.2.2.2.mono (by decide) (by decide)⟩
      · show Steps p.tables e below (T115.setTop (mkF m 91 #[.val (.int p0), .val (.int p1), .val (.int p2), .val (.int p3), .val (.int p4), .val (.int p5), .val (.ref b101), .val (.int (0 : Int32)), .val (.int (0 : Int32)), .val v110, .unset, .unset, .unset, .unset, .unset, .unset] [v115])) _
        refine XS.astore X115.here hx rfl (hb hby at_91) rfl hv115 (l' := #[.val (.int p0), .val (.int p1), .val (.int p2), .val (.int p3), .val (.int p4), .val (.int p5), .val (.ref b101), .val (.int (0 : Int32)), .val (.int (0 : Int32)), .val v110, .val v115, .unset, .unset, .unset, .unset, .unset]) (XS.store1 (o := .unset) rfl (Or.inl rfl) (XT.cat1 hv115)) ?_
        show Steps p.tables e below (T115.setTop (mkF m 93 #[.val (.int p0), .val (.int p1), .val (.int p2), .val (.int p3), .val (.int p4), .val (.int p5), .val (.ref b101), .val (.int (0 : Int32)), .val (.int (0 : Int32)), .val v110, .val v115, .unset, .unset, .unset, .unset, .unset] [])) _
        refine XS.iload X115.here hx rfl (hb hby at_93) rfl ?_
        refine XS.ifYes X115.here hx rfl (pc0 := 95) (pc' := 106) rfl (hb hby at_95) rfl ((if0 _ _).trans (teq (by decide : (0 : Int32) = (0 : Int32))).1) (by decide) (by decide) ?_
        show Steps p.tables e below (T115.setTop (mkF m 106 #[.val (.int p0), .val (.int p1), .val (.int p2), .val (.int p3), .val (.int p4), .val (.int p5), .val (.ref b101), .val (.int (0 : Int32)), .val (.int (0 : Int32)), .val v110, .val v115, .unset, .unset, .unset, .unset, .unset] [])) _
        refine XS.iload X115.here hx rfl (hb hby at_106) rfl ?_
        refine XS.ifYes X115.here hx rfl (pc0 := 108) (pc' := 120) rfl (hb hby at_108) rfl ((if0 _ _).trans (teq (by decide : (0 : Int32) = (0 : Int32))).1) (by decide) (by decide) ?_
        show Steps p.tables e below (T115.setTop (mkF m 120 #[.val (.int p0), .val (.int p1), .val (.int p2), .val (.int p3), .val (.int p4), .val (.int p5), .val (.ref b101), .val (.int (0 : Int32)), .val (.int (0 : Int32)), .val v110, .val v115, .unset, .unset, .unset, .unset, .unset] [])) _
        refine XS.aload X115.here hx rfl (hb hby at_120) rfl rfl ?_
        show Steps p.tables e below (T115.setTop (mkF m 122 #[.val (.int p0), .val (.int p1), .val (.int p2), .val (.int p3), .val (.int p4), .val (.int p5), .val (.ref b101), .val (.int (0 : Int32)), .val (.int (0 : Int32)), .val v110, .val v115, .unset, .unset, .unset, .unset, .unset] [(.ref b101)])) _
        refine st124.trans ?_
        show Steps p.tables e below (T124.setTop (mkF m 125 #[.val (.int p0), .val (.int p1), .val (.int p2), .val (.int p3), .val (.int p4), .val (.int p5), .val (.ref b101), .val (.int (0 : Int32)), .val (.int (0 : Int32)), .val v110, .val v115, .unset, .unset, .unset, .unset, .unset] [(.ref l_103)])) _
        refine XS.astore X124.here hx rfl (hb hby at_125) rfl rfl (l' := #[.val (.int p0), .val (.int p1), .val (.int p2), .val (.int p3), .val (.int p4), .val (.int p5), .val (.ref b101), .val (.int (0 : Int32)), .val (.int (0 : Int32)), .val v110, .val v115, .val (.ref l_103), .unset, .unset, .unset, .unset]) rfl ?_
        show Steps p.tables e below (T124.setTop (mkF m 127 #[.val (.int p0), .val (.int p1), .val (.int p2), .val (.int p3), .val (.int p4), .val (.int p5), .val (.ref b101), .val (.int (0 : Int32)), .val (.int (0 : Int32)), .val v110, .val v115, .val (.ref l_103), .unset, .unset, .unset, .unset] [])) _
        refine XS.iconst X124.here hx rfl (hb hby at_127) ?_
        refine XS.iload X124.here hx rfl (hb hby at_128) rfl ?_
        refine XS.ifYes X124.here hx rfl (pc0 := 130) (pc' := 137) rfl (hb hby at_130) rfl ((if0 _ _).trans (teq (by decide : (0 : Int32) = (0 : Int32))).1) (by decide) (by decide) ?_
        show Steps p.tables e below (T124.setTop (mkF m 137 #[.val (.int p0), .val (.int p1), .val (.int p2), .val (.int p3), .val (.int p4), .val (.int p5), .val (.ref b101), .val (.int (0 : Int32)), .val (.int (0 : Int32)), .val v110, .val v115, .val (.ref l_103), .unset, .unset, .unset, .unset] [(.int (1 : Int32))])) _
        refine XS.iconst X124.here hx rfl (hb hby at_137) ?_
        refine XS.iadd X124.here hx rfl (hb hby at_138) rfl ?_
        show Steps p.tables e below (T124.setTop (mkF m 139 #[.val (.int p0), .val (.int p1), .val (.int p2), .val (.int p3), .val (.int p4), .val (.int p5), .val (.ref b101), .val (.int (0 : Int32)), .val (.int (0 : Int32)), .val v110, .val v115, .val (.ref l_103), .unset, .unset, .unset, .unset] [(.int ((1 : Int32) + (0 : Int32)))])) _
        rw [show ((1 : Int32) + (0 : Int32)) = (1 : Int32) from by decide]
        show Steps p.tables e below (T124.setTop (mkF m 139 #[.val (.int p0), .val (.int p1), .val (.int p2), .val (.int p3), .val (.int p4), .val (.int p5), .val (.ref b101), .val (.int (0 : Int32)), .val (.int (0 : Int32)), .val v110, .val v115, .val (.ref l_103), .unset, .unset, .unset, .unset] [(.int (1 : Int32))])) _
        refine XS.iload X124.here hx rfl (hb hby at_139) rfl ?_
        refine XS.ifYes X124.here hx rfl (pc0 := 141) (pc' := 148) rfl (hb hby at_141) rfl ((if0 _ _).trans (teq (by decide : (0 : Int32) = (0 : Int32))).1) (by decide) (by decide) ?_
        show Steps p.tables e below (T124.setTop (mkF m 148 #[.val (.int p0), .val (.int p1), .val (.int p2), .val (.int p3), .val (.int p4), .val (.int p5), .val (.ref b101), .val (.int (0 : Int32)), .val (.int (0 : Int32)), .val v110, .val v115, .val (.ref l_103), .unset, .unset, .unset, .unset] [(.int (1 : Int32))])) _
        refine XS.iconst X124.here hx rfl (hb hby at_148) ?_
        refine XS.iadd X124.here hx rfl (hb hby at_149) rfl ?_
        show Steps p.tables e below (T124.setTop (mkF m 150 #[.val (.int p0), .val (.int p1), .val (.int p2), .val (.int p3), .val (.int p4), .val (.int p5), .val (.ref b101), .val (.int (0 : Int32)), .val (.int (0 : Int32)), .val v110, .val v115, .val (.ref l_103), .unset, .unset, .unset, .unset] [(.int ((1 : Int32) + (0 : Int32)))])) _
        rw [show ((1 : Int32) + (0 : Int32)) = (1 : Int32) from by decide]
        show Steps p.tables e below (T124.setTop (mkF m 150 #[.val (.int p0), .val (.int p1), .val (.int p2), .val (.int p3), .val (.int p4), .val (.int p5), .val (.ref b101), .val (.int (0 : Int32)), .val (.int (0 : Int32)), .val v110, .val v115, .val (.ref l_103), .unset, .unset, .unset, .unset] [(.int (1 : Int32))])) _
        refine XS.istore X124.here hx rfl (hb hby at_150) rfl (l' := #[.val (.int p0), .val (.int p1), .val (.int p2), .val (.int p3), .val (.int p4), .val (.int p5), .val (.ref b101), .val (.int (0 : Int32)), .val (.int (0 : Int32)), .val v110, .val v115, .val (.ref l_103), .val (.int (1 : Int32)), .unset, .unset, .unset]) rfl ?_
        show Steps p.tables e below (T124.setTop (mkF m 152 #[.val (.int p0), .val (.int p1), .val (.int p2), .val (.int p3), .val (.int p4), .val (.int p5), .val (.ref b101), .val (.int (0 : Int32)), .val (.int (0 : Int32)), .val v110, .val v115, .val (.ref l_103), .val (.int (1 : Int32)), .unset, .unset, .unset] [])) _
        refine XS.aload X124.here hx rfl (hb hby at_152) rfl rfl ?_
        show Steps p.tables e below (T124.setTop (mkF m 154 #[.val (.int p0), .val (.int p1), .val (.int p2), .val (.int p3), .val (.int p4), .val (.int p5), .val (.ref b101), .val (.int (0 : Int32)), .val (.int (0 : Int32)), .val v110, .val v115, .val (.ref l_103), .val (.int (1 : Int32)), .unset, .unset, .unset] [(.ref l_103)])) _
        refine st127.trans ?_
        show Steps p.tables e below (T127.setTop (mkF m 159 #[.val (.int p0), .val (.int p1), .val (.int p2), .val (.int p3), .val (.int p4), .val (.int p5), .val (.ref b101), .val (.int (0 : Int32)), .val (.int (0 : Int32)), .val v110, .val v115, .val (.ref l_103), .val (.int (1 : Int32)), .unset, .unset, .unset] [(.int (1 : Int32))])) _
        refine XS.iload X127.here hx rfl (hb hby at_159) rfl ?_
        refine XS.icmpYes X127.here hx rfl (pc0 := 161) (pc' := 166) rfl (hb hby at_161) rfl (teq (by decide : (1 : Int32) = (1 : Int32))).1 (by decide) (by decide) ?_
        show Steps p.tables e below (T127.setTop (mkF m 166 #[.val (.int p0), .val (.int p1), .val (.int p2), .val (.int p3), .val (.int p4), .val (.int p5), .val (.ref b101), .val (.int (0 : Int32)), .val (.int (0 : Int32)), .val v110, .val v115, .val (.ref l_103), .val (.int (1 : Int32)), .unset, .unset, .unset] [])) _
        refine XS.aload X127.here hx rfl (hb hby at_166) rfl rfl ?_
        refine XS.iconst X127.here hx rfl (hb hby at_168) ?_
        show Steps p.tables e below (T127.setTop (mkF m 169 #[.val (.int p0), .val (.int p1), .val (.int p2), .val (.int p3), .val (.int p4), .val (.int p5), .val (.ref b101), .val (.int (0 : Int32)), .val (.int (0 : Int32)), .val v110, .val v115, .val (.ref l_103), .val (.int (1 : Int32)), .unset, .unset, .unset] [(.int (0 : Int32)), (.ref l_103)])) _
        refine st131.trans ?_
        show Steps p.tables e below (T131.setTop (mkF m 174 #[.val (.int p0), .val (.int p1), .val (.int p2), .val (.int p3), .val (.int p4), .val (.int p5), .val (.ref b101), .val (.int (0 : Int32)), .val (.int (0 : Int32)), .val v110, .val v115, .val (.ref l_103), .val (.int (1 : Int32)), .unset, .unset, .unset] [(.ref e_103)])) _
        refine st133 _ ?_
        show Steps p.tables e below (T133.setTop (mkF m 177 #[.val (.int p0), .val (.int p1), .val (.int p2), .val (.int p3), .val (.int p4), .val (.int p5), .val (.ref b101), .val (.int (0 : Int32)), .val (.int (0 : Int32)), .val v110, .val v115, .val (.ref l_103), .val (.int (1 : Int32)), .unset, .unset, .unset] [(.ref e_103)])) _
        refine XS.iconst X133.here hx rfl (hb hby at_177) ?_
        refine XS.aconstNull X133.here hx rfl (hb hby at_178) ?_
        show Steps p.tables e below (T133.setTop (mkF m 179 #[.val (.int p0), .val (.int p1), .val (.int p2), .val (.int p3), .val (.int p4), .val (.int p5), .val (.ref b101), .val (.int (0 : Int32)), .val (.int (0 : Int32)), .val v110, .val v115, .val (.ref l_103), .val (.int (1 : Int32)), .unset, .unset, .unset] [.null, (.int (0 : Int32)), (.ref e_103)])) _
        refine st136 _ ?_
        show Steps p.tables e below (T136.setTop (mkF m 182 #[.val (.int p0), .val (.int p1), .val (.int p2), .val (.int p3), .val (.int p4), .val (.int p5), .val (.ref b101), .val (.int (0 : Int32)), .val (.int (0 : Int32)), .val v110, .val v115, .val (.ref l_103), .val (.int (1 : Int32)), .unset, .unset, .unset] [(.int (1 : Int32))])) _
        refine XS.ifYes X136.here hx rfl (pc0 := 182) (pc' := 187) rfl (hb hby at_182) rfl ((if0 _ _).trans (feq (by decide : ¬ ((1 : Int32) = (0 : Int32)))).2) (by decide) (by decide) ?_
        show Steps p.tables e below (T136.setTop (mkF m 187 #[.val (.int p0), .val (.int p1), .val (.int p2), .val (.int p3), .val (.int p4), .val (.int p5), .val (.ref b101), .val (.int (0 : Int32)), .val (.int (0 : Int32)), .val v110, .val v115, .val (.ref l_103), .val (.int (1 : Int32)), .unset, .unset, .unset] [])) _
        refine XS.iconst X136.here hx rfl (hb hby at_187) ?_
        refine XS.istore X136.here hx rfl (hb hby at_188) rfl (l' := #[.val (.int p0), .val (.int p1), .val (.int p2), .val (.int p3), .val (.int p4), .val (.int p5), .val (.ref b101), .val (.int (0 : Int32)), .val (.int (0 : Int32)), .val v110, .val v115, .val (.ref l_103), .val (.int (1 : Int32)), .val (.int (1 : Int32)), .unset, .unset]) rfl ?_
        show Steps p.tables e below (T136.setTop (mkF m 190 #[.val (.int p0), .val (.int p1), .val (.int p2), .val (.int p3), .val (.int p4), .val (.int p5), .val (.ref b101), .val (.int (0 : Int32)), .val (.int (0 : Int32)), .val v110, .val v115, .val (.ref l_103), .val (.int (1 : Int32)), .val (.int (1 : Int32)), .unset, .unset] [])) _
        refine XS.iload X136.here hx rfl (hb hby at_190) rfl ?_
        refine XS.ifYes X136.here hx rfl (pc0 := 192) (pc' := 221) rfl (hb hby at_192) rfl ((if0 _ _).trans (teq (by decide : (0 : Int32) = (0 : Int32))).1) (by decide) (by decide) ?_
        show Steps p.tables e below (T136.setTop (mkF m 221 #[.val (.int p0), .val (.int p1), .val (.int p2), .val (.int p3), .val (.int p4), .val (.int p5), .val (.ref b101), .val (.int (0 : Int32)), .val (.int (0 : Int32)), .val v110, .val v115, .val (.ref l_103), .val (.int (1 : Int32)), .val (.int (1 : Int32)), .unset, .unset] [])) _
        refine XS.iload X136.here hx rfl (hb hby at_221) rfl ?_
        refine XS.ifYes X136.here hx rfl (pc0 := 223) (pc' := 250) rfl (hb hby at_223) rfl ((if0 _ _).trans (teq (by decide : (0 : Int32) = (0 : Int32))).1) (by decide) (by decide) ?_
        show Steps p.tables e below (T136.setTop (mkF m 250 #[.val (.int p0), .val (.int p1), .val (.int p2), .val (.int p3), .val (.int p4), .val (.int p5), .val (.ref b101), .val (.int (0 : Int32)), .val (.int (0 : Int32)), .val v110, .val v115, .val (.ref l_103), .val (.int (1 : Int32)), .val (.int (1 : Int32)), .unset, .unset] [])) _
        refine XS.aload X136.here hx rfl (hb hby at_250) rfl rfl ?_
        show Steps p.tables e below (T136.setTop (mkF m 252 #[.val (.int p0), .val (.int p1), .val (.int p2), .val (.int p3), .val (.int p4), .val (.int p5), .val (.ref b101), .val (.int (0 : Int32)), .val (.int (0 : Int32)), .val v110, .val v115, .val (.ref l_103), .val (.int (1 : Int32)), .val (.int (1 : Int32)), .unset, .unset] [(.ref b101)])) _
        refine st137.trans ?_
        show Steps p.tables e below (T137.setTop (mkF m 255 #[.val (.int p0), .val (.int p1), .val (.int p2), .val (.int p3), .val (.int p4), .val (.int p5), .val (.ref b101), .val (.int (0 : Int32)), .val (.int (0 : Int32)), .val v110, .val v115, .val (.ref l_103), .val (.int (1 : Int32)), .val (.int (1 : Int32)), .unset, .unset] [(.ref l_124)])) _
        refine XS.astore X137.here hx rfl (hb hby at_255) rfl rfl (l' := #[.val (.int p0), .val (.int p1), .val (.int p2), .val (.int p3), .val (.int p4), .val (.int p5), .val (.ref b101), .val (.int (0 : Int32)), .val (.int (0 : Int32)), .val v110, .val v115, .val (.ref l_103), .val (.int (1 : Int32)), .val (.int (1 : Int32)), .val (.ref l_124), .unset]) rfl ?_
        show Steps p.tables e below (T137.setTop (mkF m 257 #[.val (.int p0), .val (.int p1), .val (.int p2), .val (.int p3), .val (.int p4), .val (.int p5), .val (.ref b101), .val (.int (0 : Int32)), .val (.int (0 : Int32)), .val v110, .val v115, .val (.ref l_103), .val (.int (1 : Int32)), .val (.int (1 : Int32)), .val (.ref l_124), .unset] [])) _
        refine XS.aload X137.here hx rfl (hb hby at_257) rfl rfl ?_
        show Steps p.tables e below (T137.setTop (mkF m 259 #[.val (.int p0), .val (.int p1), .val (.int p2), .val (.int p3), .val (.int p4), .val (.int p5), .val (.ref b101), .val (.int (0 : Int32)), .val (.int (0 : Int32)), .val v110, .val v115, .val (.ref l_103), .val (.int (1 : Int32)), .val (.int (1 : Int32)), .val (.ref l_124), .unset] [(.ref l_124)])) _
        refine st140.trans ?_
        show Steps p.tables e below (T140.setTop (mkF m 264 #[.val (.int p0), .val (.int p1), .val (.int p2), .val (.int p3), .val (.int p4), .val (.int p5), .val (.ref b101), .val (.int (0 : Int32)), .val (.int (0 : Int32)), .val v110, .val v115, .val (.ref l_103), .val (.int (1 : Int32)), .val (.int (1 : Int32)), .val (.ref l_124), .unset] [(.int (0 : Int32))])) _
        refine XS.ifYes X140.here hx rfl (pc0 := 264) (pc' := 269) rfl (hb hby at_264) rfl ((if0 _ _).trans (teq (by decide : (0 : Int32) = (0 : Int32))).1) (by decide) (by decide) ?_
        show Steps p.tables e below (T140.setTop (mkF m 269 #[.val (.int p0), .val (.int p1), .val (.int p2), .val (.int p3), .val (.int p4), .val (.int p5), .val (.ref b101), .val (.int (0 : Int32)), .val (.int (0 : Int32)), .val v110, .val v115, .val (.ref l_103), .val (.int (1 : Int32)), .val (.int (1 : Int32)), .val (.ref l_124), .unset] [])) _
        refine XS.aload X140.here hx rfl (hb hby at_269) rfl rfl ?_
        refine XS.iload X140.here hx rfl (hb hby at_271) rfl ?_
        refine XS.aload X140.here hx rfl (hb hby at_273) rfl hv110 ?_
        show Steps p.tables e below (T140.setTop (mkF m 275 #[.val (.int p0), .val (.int p1), .val (.int p2), .val (.int p3), .val (.int p4), .val (.int p5), .val (.ref b101), .val (.int (0 : Int32)), .val (.int (0 : Int32)), .val v110, .val v115, .val (.ref l_103), .val (.int (1 : Int32)), .val (.int (1 : Int32)), .val (.ref l_124), .unset] [v110, (.int p4), (.ref b101)])) _
        refine st142.trans ?_
        show Steps p.tables e below (T142.setTop (mkF m 278 #[.val (.int p0), .val (.int p1), .val (.int p2), .val (.int p3), .val (.int p4), .val (.int p5), .val (.ref b101), .val (.int (0 : Int32)), .val (.int (0 : Int32)), .val v110, .val v115, .val (.ref l_103), .val (.int (1 : Int32)), .val (.int (1 : Int32)), .val (.ref l_124), .unset] [])) _
        refine XS.aload X142.here hx rfl (hb hby at_278) rfl rfl ?_
        show Steps p.tables e below (T142.setTop (mkF m 280 #[.val (.int p0), .val (.int p1), .val (.int p2), .val (.int p3), .val (.int p4), .val (.int p5), .val (.ref b101), .val (.int (0 : Int32)), .val (.int (0 : Int32)), .val v110, .val v115, .val (.ref l_103), .val (.int (1 : Int32)), .val (.int (1 : Int32)), .val (.ref l_124), .unset] [(.ref l_103)])) _
        refine st145.trans ?_
        show Steps p.tables e below (T145.setTop (mkF m 285 #[.val (.int p0), .val (.int p1), .val (.int p2), .val (.int p3), .val (.int p4), .val (.int p5), .val (.ref b101), .val (.int (0 : Int32)), .val (.int (0 : Int32)), .val v110, .val v115, .val (.ref l_103), .val (.int (1 : Int32)), .val (.int (1 : Int32)), .val (.ref l_124), .unset] [(.int (1 : Int32))])) _
        refine XS.iload X145.here hx rfl (hb hby at_285) rfl ?_
        refine XS.icmpYes X145.here hx rfl (pc0 := 287) (pc' := 292) rfl (hb hby at_287) rfl (teq (by decide : (1 : Int32) = (1 : Int32))).1 (by decide) (by decide) ?_
        show Steps p.tables e below (T145.setTop (mkF m 292 #[.val (.int p0), .val (.int p1), .val (.int p2), .val (.int p3), .val (.int p4), .val (.int p5), .val (.ref b101), .val (.int (0 : Int32)), .val (.int (0 : Int32)), .val v110, .val v115, .val (.ref l_103), .val (.int (1 : Int32)), .val (.int (1 : Int32)), .val (.ref l_124), .unset] [])) _
        refine XS.aload X145.here hx rfl (hb hby at_292) rfl rfl ?_
        show Steps p.tables e below (T145.setTop (mkF m 294 #[.val (.int p0), .val (.int p1), .val (.int p2), .val (.int p3), .val (.int p4), .val (.int p5), .val (.ref b101), .val (.int (0 : Int32)), .val (.int (0 : Int32)), .val v110, .val v115, .val (.ref l_103), .val (.int (1 : Int32)), .val (.int (1 : Int32)), .val (.ref l_124), .unset] [(.ref b101)])) _
        refine st149.trans ?_
        show Steps p.tables e below (T149.setTop (mkF m 297 #[.val (.int p0), .val (.int p1), .val (.int p2), .val (.int p3), .val (.int p4), .val (.int p5), .val (.ref b101), .val (.int (0 : Int32)), .val (.int (0 : Int32)), .val v110, .val v115, .val (.ref l_103), .val (.int (1 : Int32)), .val (.int (1 : Int32)), .val (.ref l_124), .unset] [(.ref l_137)])) _
        refine XS.astore X149.here hx rfl (hb hby at_297) rfl rfl (l' := #[.val (.int p0), .val (.int p1), .val (.int p2), .val (.int p3), .val (.int p4), .val (.int p5), .val (.ref b101), .val (.int (0 : Int32)), .val (.int (0 : Int32)), .val v110, .val v115, .val (.ref l_103), .val (.int (1 : Int32)), .val (.int (1 : Int32)), .val (.ref l_124), .val (.ref l_137)]) rfl ?_
        show Steps p.tables e below (T149.setTop (mkF m 299 #[.val (.int p0), .val (.int p1), .val (.int p2), .val (.int p3), .val (.int p4), .val (.int p5), .val (.ref b101), .val (.int (0 : Int32)), .val (.int (0 : Int32)), .val v110, .val v115, .val (.ref l_103), .val (.int (1 : Int32)), .val (.int (1 : Int32)), .val (.ref l_124), .val (.ref l_137)] [])) _
        refine XS.aload X149.here hx rfl (hb hby at_299) rfl rfl ?_
        show Steps p.tables e below (T149.setTop (mkF m 301 #[.val (.int p0), .val (.int p1), .val (.int p2), .val (.int p3), .val (.int p4), .val (.int p5), .val (.ref b101), .val (.int (0 : Int32)), .val (.int (0 : Int32)), .val v110, .val v115, .val (.ref l_103), .val (.int (1 : Int32)), .val (.int (1 : Int32)), .val (.ref l_124), .val (.ref l_137)] [(.ref l_137)])) _
        refine st152.trans ?_
        show Steps p.tables e below (T152.setTop (mkF m 306 #[.val (.int p0), .val (.int p1), .val (.int p2), .val (.int p3), .val (.int p4), .val (.int p5), .val (.ref b101), .val (.int (0 : Int32)), .val (.int (0 : Int32)), .val v110, .val v115, .val (.ref l_103), .val (.int (1 : Int32)), .val (.int (1 : Int32)), .val (.ref l_124), .val (.ref l_137)] [(.int (1 : Int32))])) _
        refine XS.iconst X152.here hx rfl (hb hby at_306) ?_
        refine XS.icmpNo X152.here hx rfl (hb hby at_307) rfl (teq (by decide : (1 : Int32) = (1 : Int32))).2 ?_
        show Steps p.tables e below (T152.setTop (mkF m 310 #[.val (.int p0), .val (.int p1), .val (.int p2), .val (.int p3), .val (.int p4), .val (.int p5), .val (.ref b101), .val (.int (0 : Int32)), .val (.int (0 : Int32)), .val v110, .val v115, .val (.ref l_103), .val (.int (1 : Int32)), .val (.int (1 : Int32)), .val (.ref l_124), .val (.ref l_137)] [])) _
        refine XS.aload X152.here hx rfl (hb hby at_310) rfl rfl ?_
        refine XS.iconst X152.here hx rfl (hb hby at_312) ?_
        show Steps p.tables e below (T152.setTop (mkF m 313 #[.val (.int p0), .val (.int p1), .val (.int p2), .val (.int p3), .val (.int p4), .val (.int p5), .val (.ref b101), .val (.int (0 : Int32)), .val (.int (0 : Int32)), .val v110, .val v115, .val (.ref l_103), .val (.int (1 : Int32)), .val (.int (1 : Int32)), .val (.ref l_124), .val (.ref l_137)] [(.int (0 : Int32)), (.ref l_137)])) _
        refine st156.trans ?_
        show Steps p.tables e below (T156.setTop (mkF m 318 #[.val (.int p0), .val (.int p1), .val (.int p2), .val (.int p3), .val (.int p4), .val (.int p5), .val (.ref b101), .val (.int (0 : Int32)), .val (.int (0 : Int32)), .val v110, .val v115, .val (.ref l_103), .val (.int (1 : Int32)), .val (.int (1 : Int32)), .val (.ref l_124), .val (.ref l_137)] [(.ref e_142)])) _
        refine st158 _ ?_
        show Steps p.tables e below (T158.setTop (mkF m 321 #[.val (.int p0), .val (.int p1), .val (.int p2), .val (.int p3), .val (.int p4), .val (.int p5), .val (.ref b101), .val (.int (0 : Int32)), .val (.int (0 : Int32)), .val v110, .val v115, .val (.ref l_103), .val (.int (1 : Int32)), .val (.int (1 : Int32)), .val (.ref l_124), .val (.ref l_137)] [(.ref e_142)])) _
        refine XS.iload X158.here hx rfl (hb hby at_321) rfl ?_
        refine XS.aload X158.here hx rfl (hb hby at_323) rfl hv110 ?_
        show Steps p.tables e below (T158.setTop (mkF m 325 #[.val (.int p0), .val (.int p1), .val (.int p2), .val (.int p3), .val (.int p4), .val (.int p5), .val (.ref b101), .val (.int (0 : Int32)), .val (.int (0 : Int32)), .val v110, .val v115, .val (.ref l_103), .val (.int (1 : Int32)), .val (.int (1 : Int32)), .val (.ref l_124), .val (.ref l_137)] [v110, (.int p4), (.ref e_142)])) _
        refine st162 _ ?_
        show Steps p.tables e below (T162.setTop (mkF m 328 #[.val (.int p0), .val (.int p1), .val (.int p2), .val (.int p3), .val (.int p4), .val (.int p5), .val (.ref b101), .val (.int (0 : Int32)), .val (.int (0 : Int32)), .val v110, .val v115, .val (.ref l_103), .val (.int (1 : Int32)), .val (.int (1 : Int32)), .val (.ref l_124), .val (.ref l_137)] [(.int (1 : Int32))])) _
        refine XS.ifNo X162.here hx rfl (hb hby at_328) rfl ((if0 _ _).trans (feq (by decide : ¬ ((1 : Int32) = (0 : Int32)))).1) ?_
        show Steps p.tables e below (T162.setTop (mkF m 331 #[.val (.int p0), .val (.int p1), .val (.int p2), .val (.int p3), .val (.int p4), .val (.int p5), .val (.ref b101), .val (.int (0 : Int32)), .val (.int (0 : Int32)), .val v110, .val v115, .val (.ref l_103), .val (.int (1 : Int32)), .val (.int (1 : Int32)), .val (.ref l_124), .val (.ref l_137)] [])) _
        refine XS.iconst X162.here hx rfl (hb hby at_331) ?_
        refine XS.goto X162.here hx rfl (pc0 := 332) (pc' := 336) rfl (hb hby at_332) (by decide) (by decide) ?_
        show Steps p.tables e below (T162.setTop (mkF m 336 #[.val (.int p0), .val (.int p1), .val (.int p2), .val (.int p3), .val (.int p4), .val (.int p5), .val (.ref b101), .val (.int (0 : Int32)), .val (.int (0 : Int32)), .val v110, .val v115, .val (.ref l_103), .val (.int (1 : Int32)), .val (.int (1 : Int32)), .val (.ref l_124), .val (.ref l_137)] [(.int (1 : Int32))])) _
        exact Jvm.RoadKit.retOut X162 hx Bd.returns rfl (Or.inl ⟨rfl, by simp, _, rfl⟩) (hb hby at_336) hr
      · show Q_rm0 Z p0 p1 p2 p3 p4 p5 w_Kind_EXIT w_Kind_ENTRY wd kd vd zc h0 n0 _ T162.heap _
        rw [e162]
        unfold Q_rm0
        exact ⟨rfl, N162, K170⟩
    · have S171 : ∀ t, Steps p.tables e below (T103.setTop (mkF m 44 #[.val (.int p0), .val (.int p1), .val (.int p2), .val (.int p3), .val (.int p4), .val (.int p5), .val (.ref b101), .val (.int (0 : Int32)), .val (.int (1 : Int32)), .unset, .unset, .unset, .unset, .unset, .unset, .unset] [(.int (p5 &&& (4 : Int32)))])) t → Steps p.tables e below (s₁.setTop (entryFrame m #[(.int p0), (.int p1), (.int p2), (.int p3), (.int p4), (.int p5)] maxLocals)) t := fun t k => by
        refine S107 t ?_
        show Steps p.tables e below (T103.setTop (mkF m 30 #[.val (.int p0), .val (.int p1), .val (.int p2), .val (.int p3), .val (.int p4), .val (.int p5), .val (.ref b101), .val (.int (0 : Int32)), .unset, .unset, .unset, .unset, .unset, .unset, .unset, .unset] [(.int (p5 &&& (2 : Int32)))])) _
        refine XS.ifNo X103b.here hx rfl (hb hby at_30) rfl ((if0 _ _).trans (feq hc106).1) ?_
        show Steps p.tables e below (T103.setTop (mkF m 33 #[.val (.int p0), .val (.int p1), .val (.int p2), .val (.int p3), .val (.int p4), .val (.int p5), .val (.ref b101), .val (.int (0 : Int32)), .unset, .unset, .unset, .unset, .unset, .unset, .unset, .unset] [])) _
        refine XS.iconst X103b.here hx rfl (hb hby at_33) ?_
        refine XS.goto X103b.here hx rfl (pc0 := 34) (pc' := 38) rfl (hb hby at_34) (by decide) (by decide) ?_
        show Steps p.tables e below (T103.setTop (mkF m 38 #[.val (.int p0), .val (.int p1), .val (.int p2), .val (.int p3), .val (.int p4), .val (.int p5), .val (.ref b101), .val (.int (0 : Int32)), .unset, .unset, .unset, .unset, .unset, .unset, .unset, .unset] [(.int (1 : Int32))])) _
        refine XS.istore X103b.here hx rfl (hb hby at_38) rfl (l' := #[.val (.int p0), .val (.int p1), .val (.int p2), .val (.int p3), .val (.int p4), .val (.int p5), .val (.ref b101), .val (.int (0 : Int32)), .val (.int (1 : Int32)), .unset, .unset, .unset, .unset, .unset, .unset, .unset]) rfl ?_
        show Steps p.tables e below (T103.setTop (mkF m 40 #[.val (.int p0), .val (.int p1), .val (.int p2), .val (.int p3), .val (.int p4), .val (.int p5), .val (.ref b101), .val (.int (0 : Int32)), .val (.int (1 : Int32)), .unset, .unset, .unset, .unset, .unset, .unset, .unset] [])) _
        refine XS.iload X103b.here hx rfl (hb hby at_40) rfl ?_
        refine XS.iconst X103b.here hx rfl (hb hby at_42) ?_
        refine XS.iand X103b.here hx rfl (hb hby at_43) rfl ?_
        exact k
      obtain ⟨T173, h173, vm173, k173, v173, Lj173, X173, Nj173, e173, K173, hS173, hk173, hZ173, hown173, hv173, Mj173, S173⟩ : ∃ (T' : State) (h' : Heap) (vm' : Vm) (k' : Nat) (v173 : Value) (L' : List Loc), JoinStand X103b (s.setVm vm') T' L' 2 5 ∧ Fr n0 L' ∧ T'.heap = h' ∧ Keep T103.heap h' [] ∧ s.Since vm' k' ∧ k' ≤ h'.size ∧ Z.Warmed39 (s.setVm vm').vm ∧ (s.setVm vm').vm.findClass "com/example/fixlore/fixlore/lang/GraphBuilderSuspendPinLaw" = some m.cls ∧ v173.isRef = true ∧ OptExa Z h' v173 "java/lang/String" ∧ ∀ t, Steps p.tables e below (T'.setTop (mkF m 64 #[.val (.int p0), .val (.int p1), .val (.int p2), .val (.int p3), .val (.int p4), .val (.int p5), .val (.ref b101), .val (.int (0 : Int32)), .val (.int (1 : Int32)), .unset, .unset, .unset, .unset, .unset, .unset, .unset] [v173])) t → Steps p.tables e below (s₁.setTop (entryFrame m #[(.int p0), (.int p1), (.int p2), (.int p3), (.int p4), (.int p5)] maxLocals)) t := by
        by_cases hc172 : (p5 &&& (4 : Int32)) = (0 : Int32)
        · refine ⟨T103, _, _, _, .null, [], own_jn (X103b.more (by decide) (by decide)), Fr.nil n0, rfl, (Keep.refl _ []), hS103, (Nat.le_refl _), hZ103, hown103, rfl, own_mnull, fun t k => ?_⟩
          refine S171 t ?_
          show Steps p.tables e below (T103.setTop (mkF m 44 #[.val (.int p0), .val (.int p1), .val (.int p2), .val (.int p3), .val (.int p4), .val (.int p5), .val (.ref b101), .val (.int (0 : Int32)), .val (.int (1 : Int32)), .unset, .unset, .unset, .unset, .unset, .unset, .unset] [(.int (p5 &&& (4 : Int32)))])) _
          refine XS.ifYes X103b.here hx rfl (pc0 := 44) (pc' := 63) rfl (hb hby at_44) rfl ((if0 _ _).trans (teq hc172).1) (by decide) (by decide) ?_
          show Steps p.tables e below (T103.setTop (mkF m 63 #[.val (.int p0), .val (.int p1), .val (.int p2), .val (.int p3), .val (.int p4), .val (.int p5), .val (.ref b101), .val (.int (0 : Int32)), .val (.int (1 : Int32)), .unset, .unset, .unset, .unset, .unset, .unset, .unset] [])) _
          refine XS.aconstNull X103b.here hx rfl (hb hby at_63) ?_
          exact k
        · have O174 : Old Z n0 T103.heap := Old.keep O102 K103 (allS g_b101 all0)
          obtain ⟨_, _, ⟨T175, L175, k175, n175⟩, -, X175, ⟨Lc175, hQ175, l175, y175, z175⟩, st175⟩ := Jvm.LawKit.callS X103b hx (y := (⟨"java/lang/String", "valueOf", "(C)Ljava/lang/String;"⟩ : MethodName)) hown103 (mvT hZ103 (hwk hw 266 rfl)) (mvT hZ103 (hwk hw 267 rfl)) (mvT hZ103 (hwk hw 102 rfl)) (mvT hZ103 (hwk hw 268 rfl)) (by decide) (backOf (W := 0) (rm32 l Z a0 hw [] ((((p5.toUInt32 >>> ((8 : Int32) &&& 31).toUInt32).toInt32) &&& (255 : Int32)).toUInt32.toUInt16.toUInt32.toInt32) zc T103.heap n0 O174 SZ PZ (own_chm _)) hZ103 (hwk hw 268 rfl) (hwk hw 102 rfl) (by decide) (by decide)) (g := (mkF m 57 #[.val (.int p0), .val (.int p1), .val (.int p2), .val (.int p3), .val (.int p4), .val (.int p5), .val (.ref b101), .val (.int (0 : Int32)), .val (.int (1 : Int32)), .unset, .unset, .unset, .unset, .unset, .unset, .unset] [(.int ((((p5.toUInt32 >>> ((8 : Int32) &&& 31).toUInt32).toInt32) &&& (255 : Int32)).toUInt32.toUInt16.toUInt32.toInt32))])) rfl (by rw [hml]; rfl) (argsL := [(.int ((((p5.toUInt32 >>> ((8 : Int32) &&& 31).toUInt32).toInt32) &&& (255 : Int32)).toUInt32.toUInt16.toUInt32.toInt32))]) (rest := []) (lenOf pd_18 rfl) rfl (by show 2 * 0 + _ ≤ _; exact Nat.le_of_eq rfl) (hb hby at_57) (fun _ _ => ⟨rfl, (rfl : T103.heap = T103.heap), (by decide : 25 + 2 ≤ _), (by decide : 174 + 5 ≤ _)⟩)
          dsimp only [Pt.U, Pt.locs, Pt.cells, Pt.slots] at X175 l175 y175 z175 st175 hQ175
          subst l175 y175 z175
          unfold Q_rm32 at hQ175
          obtain ⟨b_175, t_175, k_175, rfl, N175q, K175, ge_b_175, ge_t_175, f175_0, f175_1, f175_2, f175_3, f175_4⟩ := hQ175
          have N175 := Fr.app N103 N175q
          have g_b_175 : n0 ≤ b_175 := Nat.le_trans (old_le O174) ge_b_175
          have g_t_175 : n0 ≤ t_175 := Nat.le_trans (old_le O174) ge_t_175
          refine ⟨T175, _, _, _, (.ref b_175), Lc175, X175.more (by decide) (by decide), N175q, rfl, (Keep.trans (Keep.refl _ []) K175 all0), hS103, (Nat.le_trans (Nat.le_refl _) (Nat.le_trans (Nat.le_refl _) K175.1)), hZ103, hown103, rfl, (own_mref f175_0), fun t k => ?_⟩
          refine S171 t ?_
          show Steps p.tables e below (T103.setTop (mkF m 44 #[.val (.int p0), .val (.int p1), .val (.int p2), .val (.int p3), .val (.int p4), .val (.int p5), .val (.ref b101), .val (.int (0 : Int32)), .val (.int (1 : Int32)), .unset, .unset, .unset, .unset, .unset, .unset, .unset] [(.int (p5 &&& (4 : Int32)))])) _
          refine XS.ifNo X103b.here hx rfl (hb hby at_44) rfl ((if0 _ _).trans (feq hc172).1) ?_
          show Steps p.tables e below (T103.setTop (mkF m 47 #[.val (.int p0), .val (.int p1), .val (.int p2), .val (.int p3), .val (.int p4), .val (.int p5), .val (.ref b101), .val (.int (0 : Int32)), .val (.int (1 : Int32)), .unset, .unset, .unset, .unset, .unset, .unset, .unset] [])) _
          refine XS.iload X103b.here hx rfl (hb hby at_47) rfl ?_
          refine XS.bipush X103b.here hx rfl (hb hby at_49) ?_
          refine XS.iushr X103b.here hx rfl (hb hby at_51) rfl ?_
          show Steps p.tables e below (T103.setTop (mkF m 52 #[.val (.int p0), .val (.int p1), .val (.int p2), .val (.int p3), .val (.int p4), .val (.int p5), .val (.ref b101), .val (.int (0 : Int32)), .val (.int (1 : Int32)), .unset, .unset, .unset, .unset, .unset, .unset, .unset] [(.int ((p5.toUInt32 >>> ((8 : Int32) &&& 31).toUInt32).toInt32))])) _
          refine XS.sipush X103b.here hx rfl (hb hby at_52) ?_
          refine XS.iand X103b.here hx rfl (hb hby at_55) rfl ?_
          show Steps p.tables e below (T103.setTop (mkF m 56 #[.val (.int p0), .val (.int p1), .val (.int p2), .val (.int p3), .val (.int p4), .val (.int p5), .val (.ref b101), .val (.int (0 : Int32)), .val (.int (1 : Int32)), .unset, .unset, .unset, .unset, .unset, .unset, .unset] [(.int (((p5.toUInt32 >>> ((8 : Int32) &&& 31).toUInt32).toInt32) &&& (255 : Int32)))])) _
          refine XS.i2c X103b.here hx rfl (hb hby at_56) rfl ?_
          show Steps p.tables e below (T103.setTop (mkF m 57 #[.val (.int p0), .val (.int p1), .val (.int p2), .val (.int p3), .val (.int p4), .val (.int p5), .val (.ref b101), .val (.int (0 : Int32)), .val (.int (1 : Int32)), .unset, .unset, .unset, .unset, .unset, .unset, .unset] [(.int ((((p5.toUInt32 >>> ((8 : Int32) &&& 31).toUInt32).toInt32) &&& (255 : Int32)).toUInt32.toUInt16.toUInt32.toInt32))])) _
          refine st175 _ ?_
          show Steps p.tables e below (T175.setTop (mkF m 60 #[.val (.int p0), .val (.int p1), .val (.int p2), .val (.int p3), .val (.int p4), .val (.int p5), .val (.ref b101), .val (.int (0 : Int32)), .val (.int (1 : Int32)), .unset, .unset, .unset, .unset, .unset, .unset, .unset] [(.ref b_175)])) _
          refine XS.goto X175.here hx rfl (pc0 := 60) (pc' := 64) rfl (hb hby at_60) (by decide) (by decide) ?_
          exact k
      unfold JoinStand at X173
      have N173 := Fr.app N103 Nj173
      have S176 : ∀ t, Steps p.tables e below (T173.setTop (mkF m 71 #[.val (.int p0), .val (.int p1), .val (.int p2), .val (.int p3), .val (.int p4), .val (.int p5), .val (.ref b101), .val (.int (0 : Int32)), .val (.int (1 : Int32)), .val v173, .unset, .unset, .unset, .unset, .unset, .unset] [(.int (p5 &&& (8 : Int32)))])) t → Steps p.tables e below (s₁.setTop (entryFrame m #[(.int p0), (.int p1), (.int p2), (.int p3), (.int p4), (.int p5)] maxLocals)) t := fun t k => by
        refine S173 t ?_
        show Steps p.tables e below (T173.setTop (mkF m 64 #[.val (.int p0), .val (.int p1), .val (.int p2), .val (.int p3), .val (.int p4), .val (.int p5), .val (.ref b101), .val (.int (0 : Int32)), .val (.int (1 : Int32)), .unset, .unset, .unset, .unset, .unset, .unset, .unset] [v173])) _
        refine XS.astore X173.here hx rfl (hb hby at_64) rfl hv173 (l' := #[.val (.int p0), .val (.int p1), .val (.int p2), .val (.int p3), .val (.int p4), .val (.int p5), .val (.ref b101), .val (.int (0 : Int32)), .val (.int (1 : Int32)), .val v173, .unset, .unset, .unset, .unset, .unset, .unset]) (XS.store1 (o := .unset) rfl (Or.inl rfl) (XT.cat1 hv173)) ?_
        show Steps p.tables e below (T173.setTop (mkF m 66 #[.val (.int p0), .val (.int p1), .val (.int p2), .val (.int p3), .val (.int p4), .val (.int p5), .val (.ref b101), .val (.int (0 : Int32)), .val (.int (1 : Int32)), .val v173, .unset, .unset, .unset, .unset, .unset, .unset] [])) _
        refine XS.iload X173.here hx rfl (hb hby at_66) rfl ?_
        refine XS.bipush X173.here hx rfl (hb hby at_68) ?_
        refine XS.iand X173.here hx rfl (hb hby at_70) rfl ?_
        exact k
      obtain ⟨T178, h178, vm178, k178, v178, Lj178, X178, Nj178, e178, K178, hS178, hk178, hZ178, hown178, hv178, Mj178, S178⟩ : ∃ (T' : State) (h' : Heap) (vm' : Vm) (k' : Nat) (v178 : Value) (L' : List Loc), JoinStand X173 (s.setVm vm') T' L' 2 5 ∧ Fr n0 L' ∧ T'.heap = h' ∧ Keep h173 h' [] ∧ s.Since vm' k' ∧ k' ≤ h'.size ∧ Z.Warmed39 (s.setVm vm').vm ∧ (s.setVm vm').vm.findClass "com/example/fixlore/fixlore/lang/GraphBuilderSuspendPinLaw" = some m.cls ∧ v178.isRef = true ∧ OptExa Z h' v178 "java/lang/String" ∧ ∀ t, Steps p.tables e below (T'.setTop (mkF m 91 #[.val (.int p0), .val (.int p1), .val (.int p2), .val (.int p3), .val (.int p4), .val (.int p5), .val (.ref b101), .val (.int (0 : Int32)), .val (.int (1 : Int32)), .val v173, .unset, .unset, .unset, .unset, .unset, .unset] [v178])) t → Steps p.tables e below (s₁.setTop (entryFrame m #[(.int p0), (.int p1), (.int p2), (.int p3), (.int p4), (.int p5)] maxLocals)) t := by
        by_cases hc177 : (p5 &&& (8 : Int32)) = (0 : Int32)
        · refine ⟨T173, _, _, _, .null, [], own_jn (X173.more (by decide) (by decide)), Fr.nil n0, e173, (Keep.refl _ []), hS173, hk173, hZ173, hown173, rfl, own_mnull, fun t k => ?_⟩
          refine S176 t ?_
          show Steps p.tables e below (T173.setTop (mkF m 71 #[.val (.int p0), .val (.int p1), .val (.int p2), .val (.int p3), .val (.int p4), .val (.int p5), .val (.ref b101), .val (.int (0 : Int32)), .val (.int (1 : Int32)), .val v173, .unset, .unset, .unset, .unset, .unset, .unset] [(.int (p5 &&& (8 : Int32)))])) _
          refine XS.ifYes X173.here hx rfl (pc0 := 71) (pc' := 90) rfl (hb hby at_71) rfl ((if0 _ _).trans (teq hc177).1) (by decide) (by decide) ?_
          show Steps p.tables e below (T173.setTop (mkF m 90 #[.val (.int p0), .val (.int p1), .val (.int p2), .val (.int p3), .val (.int p4), .val (.int p5), .val (.ref b101), .val (.int (0 : Int32)), .val (.int (1 : Int32)), .val v173, .unset, .unset, .unset, .unset, .unset, .unset] [])) _
          refine XS.aconstNull X173.here hx rfl (hb hby at_90) ?_
          exact k
        · have O179 : Old Z n0 T103.heap := Old.keep O102 K103 (allS g_b101 all0)
          have O180 : Old Z n0 h173 := Old.keep O179 K173 all0
          obtain ⟨_, _, ⟨T181, L181, k181, n181⟩, -, X181, ⟨Lc181, hQ181, l181, y181, z181⟩, st181⟩ := Jvm.LawKit.callS X173 hx (y := (⟨"java/lang/String", "valueOf", "(C)Ljava/lang/String;"⟩ : MethodName)) hown173 (mvT hZ173 (hwk hw 266 rfl)) (mvT hZ173 (hwk hw 267 rfl)) (mvT hZ173 (hwk hw 102 rfl)) (mvT hZ173 (hwk hw 268 rfl)) (by decide) (backOf (W := 0) (rm32 l Z a0 hw [] ((((p5.toUInt32 >>> ((16 : Int32) &&& 31).toUInt32).toInt32) &&& (255 : Int32)).toUInt32.toUInt16.toUInt32.toInt32) zc h173 n0 O180 SZ PZ (own_chm _)) hZ173 (hwk hw 268 rfl) (hwk hw 102 rfl) (by decide) (by decide)) (g := (mkF m 84 #[.val (.int p0), .val (.int p1), .val (.int p2), .val (.int p3), .val (.int p4), .val (.int p5), .val (.ref b101), .val (.int (0 : Int32)), .val (.int (1 : Int32)), .val v173, .unset, .unset, .unset, .unset, .unset, .unset] [(.int ((((p5.toUInt32 >>> ((16 : Int32) &&& 31).toUInt32).toInt32) &&& (255 : Int32)).toUInt32.toUInt16.toUInt32.toInt32))])) rfl (by rw [hml]; rfl) (argsL := [(.int ((((p5.toUInt32 >>> ((16 : Int32) &&& 31).toUInt32).toInt32) &&& (255 : Int32)).toUInt32.toUInt16.toUInt32.toInt32))]) (rest := []) (lenOf pd_18 rfl) rfl (by show 2 * 0 + _ ≤ _; exact Nat.le_of_eq rfl) (hb hby at_84) (fun _ _ => ⟨rfl, e173, (by decide : 27 + 2 ≤ _), (by decide : 179 + 5 ≤ _)⟩)
          dsimp only [Pt.U, Pt.locs, Pt.cells, Pt.slots] at X181 l181 y181 z181 st181 hQ181
          subst l181 y181 z181
          unfold Q_rm32 at hQ181
          obtain ⟨b_181, t_181, k_181, rfl, N181q, K181, ge_b_181, ge_t_181, f181_0, f181_1, f181_2, f181_3, f181_4⟩ := hQ181
          have N181 := Fr.app N173 N181q
          have g_b_181 : n0 ≤ b_181 := Nat.le_trans (old_le O180) ge_b_181
          have g_t_181 : n0 ≤ t_181 := Nat.le_trans (old_le O180) ge_t_181
          refine ⟨T181, _, _, _, (.ref b_181), Lc181, X181.more (by decide) (by decide), N181q, rfl, (Keep.trans (Keep.refl _ []) K181 all0), hS173, (Nat.le_trans hk173 (Nat.le_trans (Nat.le_refl _) K181.1)), hZ173, hown173, rfl, (own_mref f181_0), fun t k => ?_⟩
          refine S176 t ?_
          show Steps p.tables e below (T173.setTop (mkF m 71 #[.val (.int p0), .val (.int p1), .val (.int p2), .val (.int p3), .val (.int p4), .val (.int p5), .val (.ref b101), .val (.int (0 : Int32)), .val (.int (1 : Int32)), .val v173, .unset, .unset, .unset, .unset, .unset, .unset] [(.int (p5 &&& (8 : Int32)))])) _
          refine XS.ifNo X173.here hx rfl (hb hby at_71) rfl ((if0 _ _).trans (feq hc177).1) ?_
          show Steps p.tables e below (T173.setTop (mkF m 74 #[.val (.int p0), .val (.int p1), .val (.int p2), .val (.int p3), .val (.int p4), .val (.int p5), .val (.ref b101), .val (.int (0 : Int32)), .val (.int (1 : Int32)), .val v173, .unset, .unset, .unset, .unset, .unset, .unset] [])) _
          refine XS.iload X173.here hx rfl (hb hby at_74) rfl ?_
          refine XS.bipush X173.here hx rfl (hb hby at_76) ?_
          refine XS.iushr X173.here hx rfl (hb hby at_78) rfl ?_
          show Steps p.tables e below (T173.setTop (mkF m 79 #[.val (.int p0), .val (.int p1), .val (.int p2), .val (.int p3), .val (.int p4), .val (.int p5), .val (.ref b101), .val (.int (0 : Int32)), .val (.int (1 : Int32)), .val v173, .unset, .unset, .unset, .unset, .unset, .unset] [(.int ((p5.toUInt32 >>> ((16 : Int32) &&& 31).toUInt32).toInt32))])) _
          refine XS.sipush X173.here hx rfl (hb hby at_79) ?_
          refine XS.iand X173.here hx rfl (hb hby at_82) rfl ?_
          show Steps p.tables e below (T173.setTop (mkF m 83 #[.val (.int p0), .val (.int p1), .val (.int p2), .val (.int p3), .val (.int p4), .val (.int p5), .val (.ref b101), .val (.int (0 : Int32)), .val (.int (1 : Int32)), .val v173, .unset, .unset, .unset, .unset, .unset, .unset] [(.int (((p5.toUInt32 >>> ((16 : Int32) &&& 31).toUInt32).toInt32) &&& (255 : Int32)))])) _
          refine XS.i2c X173.here hx rfl (hb hby at_83) rfl ?_
          show Steps p.tables e below (T173.setTop (mkF m 84 #[.val (.int p0), .val (.int p1), .val (.int p2), .val (.int p3), .val (.int p4), .val (.int p5), .val (.ref b101), .val (.int (0 : Int32)), .val (.int (1 : Int32)), .val v173, .unset, .unset, .unset, .unset, .unset, .unset] [(.int ((((p5.toUInt32 >>> ((16 : Int32) &&& 31).toUInt32).toInt32) &&& (255 : Int32)).toUInt32.toUInt16.toUInt32.toInt32))])) _
          refine st181 _ ?_
          show Steps p.tables e below (T181.setTop (mkF m 87 #[.val (.int p0), .val (.int p1), .val (.int p2), .val (.int p3), .val (.int p4), .val (.int p5), .val (.ref b101), .val (.int (0 : Int32)), .val (.int (1 : Int32)), .val v173, .unset, .unset, .unset, .unset, .unset, .unset] [(.ref b_181)])) _
          refine XS.goto X181.here hx rfl (pc0 := 87) (pc' := 91) rfl (hb hby at_87) (by decide) (by decide) ?_
          exact k
      unfold JoinStand at X178
      have N178 := Fr.app N173 Nj178
      have c182 : Fld Z h178 b101 "com/example/fixlore/fixlore/lang/GraphBuilder" "pending" "Ljava/util/List;" (.ref l_103) := (Fld.keep (Fld.keep f103_1 K173 nin0) K178 nin0)
      have c183 : Exa Z h178 l_103 "java/util/ArrayList" := (Exa.keep (Exa.keep f103_2 K173) K178)
      have c184 : Fld Z h178 l_103 "java/util/ArrayList" "elementData" "[Ljava/lang/Object;" (.ref t_103) := (Fld.keep (Fld.keep f103_3 K173 nin0) K178 nin0)
      have c185 : Fld Z h178 l_103 "java/util/ArrayList" "size" "I" (.int (1 : Int32)) := (Fld.keep (Fld.keep f103_4 K173 nin0) K178 nin0)
      have c186 : Fld Z h178 l_103 "java/util/AbstractList" "modCount" "I" (.int ((0 : Int32) + (1 : Int32))) := (Fld.keep (Fld.keep f103_5 K173 nin0) K178 nin0)
      have c187 : Arv Z h178 t_103 k_103 (.object "java/lang/Object") (10 : Int32) [(.ref e_103), .null, .null, .null, .null, .null, .null, .null, .null, .null] .null := (Arv.keep (Arv.keep f103_6 K173 nin0) K178 nin0)
      have O188 : Old Z n0 T103.heap := Old.keep O102 K103 (allS g_b101 all0)
      have O189 : Old Z n0 h173 := Old.keep O188 K173 all0
      have O190 : Old Z n0 h178 := Old.keep O189 K178 all0
      have c192 : Exa Z h178 b101 "com/example/fixlore/fixlore/lang/GraphBuilder" := (Exa.keep (Exa.keep f103_0 K173) K178)
      obtain ⟨cq191, kq191, q191a, q191b, q191c⟩ := isOf hZ178 e178 c192
      obtain ⟨_, _, ⟨T191, L191, k191, n191⟩, -, X191, ⟨Lc191, hQ191, l191, y191, z191⟩, st191⟩ := X178.virtualBack hx (y := (⟨"com/example/fixlore/fixlore/lang/GraphBuilder", "join", "(ILjava/lang/String;)V"⟩ : MethodName)) (z := (⟨"com/example/fixlore/fixlore/lang/GraphBuilder", "join", "(ILjava/lang/String;)V"⟩ : MethodName)) hown178 (mvT hZ178 (hwk hw 222 rfl)) (mvT hZ178 (hwk hw 201 rfl)) (notFace_of_selects (args := #[]) (mvT hZ178 (hwk hw 203 rfl))) (mvT hZ178 (hwk hw 203 rfl)) (mvT hZ178 (hwk hw 202 rfl)) (by decide) (backOf (W := 0) (rm21_1 l Z a0 hw [] b101 p4 v178 l_103 e_103 ((0 : Int32) + (1 : Int32)) wd kd vd t_103 k_103 h178 n0 O190 c182 c183 c184 c185 c186 c187 f103_7 g_l_103 (ne_exa f103_0 f103_2 (by decide)) SD VD hv178 g_t_103 f103_11 (Exa.neArv f103_0 f103_6 (hwk hw 1 rfl))) hZ178 (hwk hw 204 rfl) (hwk hw 2 rfl) (by decide) (by decide)) q191a q191c (g := (mkF m 117 #[.val (.int p0), .val (.int p1), .val (.int p2), .val (.int p3), .val (.int p4), .val (.int p5), .val (.ref b101), .val (.int (0 : Int32)), .val (.int (1 : Int32)), .val v173, .val v178, .unset, .unset, .unset, .unset, .unset] [v178, (.int p4), (.ref b101)])) rfl (by rw [hml]; rfl) (Steps.refl _) (argsL := [(.int p4), v178]) (rest := []) (lenOf pd_9 rfl) rfl (by show 2 * 0 + _ ≤ _; exact Nat.le_of_eq rfl) (hb hby at_117) (fun _ _ => ⟨rfl, e178, (by decide : 29 + 1 ≤ _), (by decide : 184 + 2 ≤ _)⟩)
      dsimp only [Pt.U, Pt.locs, Pt.cells, Pt.slots] at X191 l191 y191 z191 st191 hQ191
      subst l191 y191 z191
      unfold Q_rm21_1 at hQ191
      obtain ⟨e_191, rfl, N191q, K191, ge_e_191, f191_0, f191_1, f191_2, f191_3, f191_4, f191_5, f191_6, f191_7, f191_8⟩ := hQ191
      have N191 := Fr.app N178 N191q
      have g_e_191 : n0 ≤ e_191 := Nat.le_trans (old_le O190) ge_e_191
      have c193 : Exa Z T191.heap b101 "com/example/fixlore/fixlore/lang/GraphBuilder" := (Exa.keep c192 K191)
      have c194 : Fld Z T191.heap b101 "com/example/fixlore/fixlore/lang/GraphBuilder" "pending" "Ljava/util/List;" (.ref l_103) := (Fld.keep c182 K191 (ninS (ne_exa f103_0 f103_2 (by decide)) (ninS (Exa.neArv c193 f191_4 (hwk hw 1 rfl)) nin0)))
      have O195 : Old Z n0 T191.heap := Old.keep O190 K191 (allS g_l_103 (allS g_t_103 all0))
      obtain ⟨cq196, kq196, q196a, q196b, q196c⟩ := isOf hZ178 (rfl : T191.heap = T191.heap) c193
      obtain ⟨_, _, ⟨T196, L196, k196, n196⟩, -, X196, ⟨Lc196, hQ196, l196, y196, z196⟩, st196⟩ := X191.virtualBack hx (y := (⟨"com/example/fixlore/fixlore/lang/GraphBuilder", "suspend", "()Ljava/util/List;"⟩ : MethodName)) (z := (⟨"com/example/fixlore/fixlore/lang/GraphBuilder", "suspend", "()Ljava/util/List;"⟩ : MethodName)) hown178 (mvT hZ178 (hwk hw 223 rfl)) (mvT hZ178 (hwk hw 224 rfl)) (notFace_of_selects (args := #[]) (mvT hZ178 (hwk hw 226 rfl))) (mvT hZ178 (hwk hw 226 rfl)) (mvT hZ178 (hwk hw 225 rfl)) (by decide) (backOf (W := 0) (rm24 l Z a0 hw [] b101 l_103 wd T191.heap n0 O195 c193 g_b101 c194 SD) hZ178 (hwk hw 227 rfl) (hwk hw 2 rfl) (by decide) (by decide)) q196a q196c (g := (mkF m 122 #[.val (.int p0), .val (.int p1), .val (.int p2), .val (.int p3), .val (.int p4), .val (.int p5), .val (.ref b101), .val (.int (0 : Int32)), .val (.int (1 : Int32)), .val v173, .val v178, .unset, .unset, .unset, .unset, .unset] [(.ref b101)])) rfl (by rw [hml]; rfl) (Steps.refl _) (argsL := []) (rest := []) (lenOf pd_19 rfl) rfl (by show 2 * 0 + _ ≤ _; exact Nat.le_of_eq rfl) (hb hby at_122) (fun _ _ => ⟨rfl, (rfl : T191.heap = T191.heap), (by decide : 30 + 1 ≤ _), (by decide : 186 + 3 ≤ _)⟩)
      dsimp only [Pt.U, Pt.locs, Pt.cells, Pt.slots] at X196 l196 y196 z196 st196 hQ196
      subst l196 y196 z196
      unfold Q_rm24 at hQ196
      obtain ⟨l_196, rfl, N196q, K196, ge_l_196, f196_0, f196_1, f196_2, f196_3, f196_4, f196_5⟩ := hQ196
      have N196 := Fr.app N191 N196q
      have g_l_196 : n0 ≤ l_196 := Nat.le_trans (old_le O195) ge_l_196
      have c197 : Fld Z T196.heap l_103 "java/util/ArrayList" "size" "I" (.int (2 : Int32)) := (Fld.keep f191_2 K196 (ninS (ne_exa f103_2 f103_0 (by decide)) nin0))
      have O198 : Old Z n0 T196.heap := Old.keep O195 K196 (allS g_b101 all0)
      have c200 : Exa Z T196.heap l_103 "java/util/ArrayList" := (Exa.keep f191_0 K196)
      obtain ⟨cq199, kq199, q199a, q199b, q199c⟩ := isOf hZ178 (rfl : T196.heap = T196.heap) c200
      obtain ⟨_, _, ⟨T199, L199, k199, n199⟩, -, X199, ⟨Lc199, hQ199, l199, y199, z199⟩, st199⟩ := X196.interfaceBack hx (xi := (⟨"java/util/List", "size", "()I"⟩ : MethodName)) (y := (⟨"java/util/ArrayList", "size", "()I"⟩ : MethodName)) hown178 (mvT hZ178 (hwk hw 228 rfl)) (mvT hZ178 (hwk hw 183 rfl)) (mvT hZ178 (hwk hw 184 rfl)) (mvT hZ178 (hwk hw 185 rfl)) (mvT hZ178 (hwk hw 186 rfl)) (mvT hZ178 (hwk hw 187 rfl)) (mvT hZ178 (hwk hw 188 rfl)) (mvT hZ178 (hwk hw 155 rfl)) (by decide) (backOf (W := 0) (rm19 l Z a0 hw [] l_103 (2 : Int32) T196.heap n0 O198 c197) hZ178 (hwk hw 189 rfl) (hwk hw 11 rfl) (by decide) (by decide)) q199a q199b q199c (g := (mkF m 154 #[.val (.int p0), .val (.int p1), .val (.int p2), .val (.int p3), .val (.int p4), .val (.int p5), .val (.ref b101), .val (.int (0 : Int32)), .val (.int (1 : Int32)), .val v173, .val v178, .val (.ref l_103), .val (.int (2 : Int32)), .unset, .unset, .unset] [(.ref l_103)])) rfl (by rw [hml]; rfl) (Steps.refl _) (argsL := []) (rest := []) (lenOf pd_8 rfl) rfl (by show 2 * 0 + _ ≤ _; exact Nat.le_of_eq rfl) (hb hby at_154) (fun _ _ => ⟨rfl, (rfl : T196.heap = T196.heap), (by decide : 31 + 0 ≤ _), (by decide : 189 + 0 ≤ _)⟩)
      dsimp only [Pt.U, Pt.locs, Pt.cells, Pt.slots] at X199 l199 y199 z199 st199 hQ199
      subst l199 y199 z199
      unfold Q_rm19 at hQ199
      obtain ⟨rfl, N199q, e199⟩ := hQ199
      have N199 := Fr.app N196 N199q
      have c201 : Fld Z T196.heap l_103 "java/util/ArrayList" "elementData" "[Ljava/lang/Object;" (.ref t_103) := (Fld.keep f191_1 K196 (ninS (ne_exa f103_2 f103_0 (by decide)) nin0))
      have c202 : Arv Z T196.heap t_103 k_103 (.object "java/lang/Object") (10 : Int32) [(.ref e_103), (.ref e_191), .null, .null, .null, .null, .null, .null, .null, .null] .null := (Arv.keep f191_4 K196 (ninS (Ne.symm (Exa.neArv c193 f191_4 (hwk hw 1 rfl))) nin0))
      obtain ⟨cq203, kq203, q203a, q203b, q203c⟩ := isOf hZ178 e199 c200
      obtain ⟨_, _, ⟨T203, L203, k203, n203⟩, -, X203, ⟨Lc203, hQ203, l203, y203, z203⟩, st203⟩ := X199.interfaceBack hx (xi := (⟨"java/util/List", "get", "(I)Ljava/lang/Object;"⟩ : MethodName)) (y := (⟨"java/util/ArrayList", "get", "(I)Ljava/lang/Object;"⟩ : MethodName)) hown178 (mvT hZ178 (hwk hw 229 rfl)) (mvT hZ178 (hwk hw 230 rfl)) (mvT hZ178 (hwk hw 231 rfl)) (mvT hZ178 (hwk hw 232 rfl)) (mvT hZ178 (hwk hw 233 rfl)) (mvT hZ178 (hwk hw 234 rfl)) (mvT hZ178 (hwk hw 235 rfl)) (mvT hZ178 (hwk hw 155 rfl)) (by decide) (backOf (W := 0) (rm25 l Z a0 hw [] l_103 (0 : Int32) (2 : Int32) t_103 k_103 ([(.ref e_103), (.ref e_191), .null, .null, .null, .null, .null, .null, .null, .null]) e_103 T196.heap n0 O198 c200 c197 c201 c202 rfl (by decide) (by decide) (by decide)) hZ178 (hwk hw 236 rfl) (hwk hw 11 rfl) (by decide) (by decide)) q203a q203b q203c (g := (mkF m 169 #[.val (.int p0), .val (.int p1), .val (.int p2), .val (.int p3), .val (.int p4), .val (.int p5), .val (.ref b101), .val (.int (0 : Int32)), .val (.int (1 : Int32)), .val v173, .val v178, .val (.ref l_103), .val (.int (2 : Int32)), .unset, .unset, .unset] [(.int (0 : Int32)), (.ref l_103)])) rfl (by rw [hml]; rfl) (Steps.refl _) (argsL := [(.int (0 : Int32))]) (rest := []) (lenOf pd_11 rfl) rfl (by show 2 * 0 + _ ≤ _; exact Nat.le_of_eq rfl) (hb hby at_169) (fun _ _ => ⟨rfl, e199, (by decide : 31 + 0 ≤ _), (by decide : 189 + 0 ≤ _)⟩)
      dsimp only [Pt.U, Pt.locs, Pt.cells, Pt.slots] at X203 l203 y203 z203 st203 hQ203
      subst l203 y203 z203
      unfold Q_rm25 at hQ203
      obtain ⟨rfl, N203q, e203⟩ := hQ203
      have N203 := Fr.app N199 N203q
      have c204 : Exa Z T196.heap e_103 "com/example/fixlore/fixlore/lang/GraphBuilder$End" := (Exa.keep (Exa.keep (Exa.keep (Exa.keep f103_8 K173) K178) K191) K196)
      obtain ⟨T205, X205, e205, st205⟩ := castY X203 hx hZ178 hown178 (hwk hw 250 rfl) e203 (Ins.self c204) (g := (mkF m 174 #[.val (.int p0), .val (.int p1), .val (.int p2), .val (.int p3), .val (.int p4), .val (.int p5), .val (.ref b101), .val (.int (0 : Int32)), .val (.int (1 : Int32)), .val v173, .val v178, .val (.ref l_103), .val (.int (2 : Int32)), .unset, .unset, .unset] [(.ref e_103)])) rfl rfl (hb hby at_174)
      have c206 : Fld Z T196.heap e_103 "com/example/fixlore/fixlore/lang/GraphBuilder$End" "from" "I" (.int (0 : Int32)) := (Fld.keep (Fld.keep (Fld.keep (Fld.keep f103_9 K173 nin0) K178 nin0) K191 (ninS (ne_exa f103_8 f103_2 (by decide)) (ninS (Exa.neArv c204 c202 (hwk hw 206 rfl)) nin0))) K196 (ninS (ne_exa f103_8 f103_0 (by decide)) nin0))
      have c207 : Fld Z T196.heap e_103 "com/example/fixlore/fixlore/lang/GraphBuilder$End" "branch" "Ljava/lang/String;" .null := (Fld.keep (Fld.keep (Fld.keep (Fld.keep f103_10 K173 nin0) K178 nin0) K191 (ninS (ne_exa f103_8 f103_2 (by decide)) (ninS (Exa.neArv c204 c202 (hwk hw 206 rfl)) nin0))) K196 (ninS (ne_exa f103_8 f103_0 (by decide)) nin0))
      obtain ⟨_, _, ⟨T208, L208, k208, n208⟩, -, X208, ⟨Lc208, hQ208, l208, y208, z208⟩, st208⟩ := Jvm.LawKit.callS X205 hx (y := (⟨"com/example/fixlore/fixlore/lang/GraphBuilderSuspendPinLaw", "endIs", "(Lcom/example/fixlore/fixlore/lang/GraphBuilder$End;ILjava/lang/String;)Z"⟩ : MethodName)) hown178 (mvT hZ178 (hwk hw 252 rfl)) (mvT hZ178 (hwk hw 253 rfl)) (mvT hZ178 (hwk hw 254 rfl)) (mvT hZ178 (hwk hw 255 rfl)) (by decide) (backOf (W := 0) (rm29nb l Z a0 hw [] e_103 (0 : Int32) T196.heap n0 O198 c204 c206 c207) hZ178 (hwk hw 255 rfl) (hwk hw 254 rfl) (by decide) (by decide)) (g := (mkF m 179 #[.val (.int p0), .val (.int p1), .val (.int p2), .val (.int p3), .val (.int p4), .val (.int p5), .val (.ref b101), .val (.int (0 : Int32)), .val (.int (1 : Int32)), .val v173, .val v178, .val (.ref l_103), .val (.int (2 : Int32)), .unset, .unset, .unset] [.null, (.int (0 : Int32)), (.ref e_103)])) rfl (by rw [hml]; rfl) (argsL := [(.ref e_103), (.int (0 : Int32)), .null]) (rest := []) (lenOf pd_20 rfl) rfl (by show 2 * 0 + _ ≤ _; exact Nat.le_of_eq rfl) (hb hby at_179) (fun _ _ => ⟨rfl, e205, (by decide : 31 + 0 ≤ _), (by decide : 189 + 0 ≤ _)⟩)
      dsimp only [Pt.U, Pt.locs, Pt.cells, Pt.slots] at X208 l208 y208 z208 st208 hQ208
      subst l208 y208 z208
      unfold Q_rm29nb at hQ208
      obtain ⟨rfl, N208q, e208⟩ := hQ208
      have N208 := Fr.app N203 N208q
      obtain ⟨cq209, kq209, q209a, q209b, q209c⟩ := isOf hZ178 e208 c200
      obtain ⟨_, _, ⟨T209, L209, k209, n209⟩, -, X209, ⟨Lc209, hQ209, l209, y209, z209⟩, st209⟩ := X208.interfaceBack hx (xi := (⟨"java/util/List", "get", "(I)Ljava/lang/Object;"⟩ : MethodName)) (y := (⟨"java/util/ArrayList", "get", "(I)Ljava/lang/Object;"⟩ : MethodName)) hown178 (mvT hZ178 (hwk hw 229 rfl)) (mvT hZ178 (hwk hw 230 rfl)) (mvT hZ178 (hwk hw 231 rfl)) (mvT hZ178 (hwk hw 232 rfl)) (mvT hZ178 (hwk hw 233 rfl)) (mvT hZ178 (hwk hw 234 rfl)) (mvT hZ178 (hwk hw 235 rfl)) (mvT hZ178 (hwk hw 155 rfl)) (by decide) (backOf (W := 0) (rm25 l Z a0 hw [] l_103 (1 : Int32) (2 : Int32) t_103 k_103 ([(.ref e_103), (.ref e_191), .null, .null, .null, .null, .null, .null, .null, .null]) e_191 T196.heap n0 O198 c200 c197 c201 c202 rfl (by decide) (by decide) (by decide)) hZ178 (hwk hw 236 rfl) (hwk hw 11 rfl) (by decide) (by decide)) q209a q209b q209c (g := (mkF m 230 #[.val (.int p0), .val (.int p1), .val (.int p2), .val (.int p3), .val (.int p4), .val (.int p5), .val (.ref b101), .val (.int (0 : Int32)), .val (.int (1 : Int32)), .val v173, .val v178, .val (.ref l_103), .val (.int (2 : Int32)), .val (.int (1 : Int32)), .unset, .unset] [(.int (1 : Int32)), (.ref l_103)])) rfl (by rw [hml]; rfl) (Steps.refl _) (argsL := [(.int (1 : Int32))]) (rest := []) (lenOf pd_11 rfl) rfl (by show 2 * 0 + _ ≤ _; exact Nat.le_of_eq rfl) (hb hby at_230) (fun _ _ => ⟨rfl, e208, (by decide : 31 + 0 ≤ _), (by decide : 189 + 0 ≤ _)⟩)
      dsimp only [Pt.U, Pt.locs, Pt.cells, Pt.slots] at X209 l209 y209 z209 st209 hQ209
      subst l209 y209 z209
      unfold Q_rm25 at hQ209
      obtain ⟨rfl, N209q, e209⟩ := hQ209
      have N209 := Fr.app N208 N209q
      have c210 : Exa Z T196.heap e_191 "com/example/fixlore/fixlore/lang/GraphBuilder$End" := (Exa.keep f191_6 K196)
      obtain ⟨T211, X211, e211, st211⟩ := castY X209 hx hZ178 hown178 (hwk hw 250 rfl) e209 (Ins.self c210) (g := (mkF m 235 #[.val (.int p0), .val (.int p1), .val (.int p2), .val (.int p3), .val (.int p4), .val (.int p5), .val (.ref b101), .val (.int (0 : Int32)), .val (.int (1 : Int32)), .val v173, .val v178, .val (.ref l_103), .val (.int (2 : Int32)), .val (.int (1 : Int32)), .unset, .unset] [(.ref e_191)])) rfl rfl (hb hby at_235)
      have c212 : Fld Z T196.heap e_191 "com/example/fixlore/fixlore/lang/GraphBuilder$End" "from" "I" (.int p4) := (Fld.keep f191_7 K196 (ninS (ne_exa f191_6 c193 (by decide)) nin0))
      have c213 : Fld Z T196.heap e_191 "com/example/fixlore/fixlore/lang/GraphBuilder$End" "branch" "Ljava/lang/String;" v178 := (Fld.keep f191_8 K196 (ninS (ne_exa f191_6 c193 (by decide)) nin0))
      have c214 : OptExa Z T196.heap v178 "java/lang/String" := (own_mkeep K196 (own_mkeep K191 Mj178))
      obtain ⟨_, _, ⟨T215, L215, k215, n215⟩, -, X215, ⟨Lc215, hQ215, l215, y215, z215⟩, st215⟩ := Jvm.LawKit.callS X211 hx (y := (⟨"com/example/fixlore/fixlore/lang/GraphBuilderSuspendPinLaw", "endIs", "(Lcom/example/fixlore/fixlore/lang/GraphBuilder$End;ILjava/lang/String;)Z"⟩ : MethodName)) hown178 (mvT hZ178 (hwk hw 252 rfl)) (mvT hZ178 (hwk hw 253 rfl)) (mvT hZ178 (hwk hw 254 rfl)) (mvT hZ178 (hwk hw 255 rfl)) (by decide) (backOf (W := 0) (rm29 l Z a0 hw [] e_191 p4 v178 T196.heap n0 O198 c210 c212 c213 hv178 c214) hZ178 (hwk hw 255 rfl) (hwk hw 254 rfl) (by decide) (by decide)) (g := (mkF m 242 #[.val (.int p0), .val (.int p1), .val (.int p2), .val (.int p3), .val (.int p4), .val (.int p5), .val (.ref b101), .val (.int (0 : Int32)), .val (.int (1 : Int32)), .val v173, .val v178, .val (.ref l_103), .val (.int (2 : Int32)), .val (.int (1 : Int32)), .unset, .unset] [v178, (.int p4), (.ref e_191)])) rfl (by rw [hml]; rfl) (argsL := [(.ref e_191), (.int p4), v178]) (rest := []) (lenOf pd_20 rfl) rfl (by show 2 * 0 + _ ≤ _; exact Nat.le_of_eq rfl) (hb hby at_242) (fun _ _ => ⟨rfl, e211, (by decide : 31 + 0 ≤ _), (by decide : 189 + 0 ≤ _)⟩)
      dsimp only [Pt.U, Pt.locs, Pt.cells, Pt.slots] at X215 l215 y215 z215 st215 hQ215
      subst l215 y215 z215
      unfold Q_rm29 at hQ215
      obtain ⟨rfl, N215q, e215⟩ := hQ215
      have N215 := Fr.app N209 N215q
      obtain ⟨cq216, kq216, q216a, q216b, q216c⟩ := isOf hZ178 e215 f196_0
      obtain ⟨_, _, ⟨T216, L216, k216, n216⟩, -, X216, ⟨Lc216, hQ216, l216, y216, z216⟩, st216⟩ := X215.virtualBack hx (y := (⟨"com/example/fixlore/fixlore/lang/GraphBuilder", "suspend", "()Ljava/util/List;"⟩ : MethodName)) (z := (⟨"com/example/fixlore/fixlore/lang/GraphBuilder", "suspend", "()Ljava/util/List;"⟩ : MethodName)) hown178 (mvT hZ178 (hwk hw 223 rfl)) (mvT hZ178 (hwk hw 224 rfl)) (notFace_of_selects (args := #[]) (mvT hZ178 (hwk hw 226 rfl))) (mvT hZ178 (hwk hw 226 rfl)) (mvT hZ178 (hwk hw 225 rfl)) (by decide) (backOf (W := 0) (rm24 l Z a0 hw [] b101 l_196 wd T196.heap n0 O198 f196_0 g_b101 f196_1 SD) hZ178 (hwk hw 227 rfl) (hwk hw 2 rfl) (by decide) (by decide)) q216a q216c (g := (mkF m 252 #[.val (.int p0), .val (.int p1), .val (.int p2), .val (.int p3), .val (.int p4), .val (.int p5), .val (.ref b101), .val (.int (0 : Int32)), .val (.int (1 : Int32)), .val v173, .val v178, .val (.ref l_103), .val (.int (2 : Int32)), .val (.int (1 : Int32)), .unset, .unset] [(.ref b101)])) rfl (by rw [hml]; rfl) (Steps.refl _) (argsL := []) (rest := []) (lenOf pd_19 rfl) rfl (by show 2 * 0 + _ ≤ _; exact Nat.le_of_eq rfl) (hb hby at_252) (fun _ _ => ⟨rfl, e215, (by decide : 31 + 1 ≤ _), (by decide : 189 + 3 ≤ _)⟩)
      dsimp only [Pt.U, Pt.locs, Pt.cells, Pt.slots] at X216 l216 y216 z216 st216 hQ216
      subst l216 y216 z216
      unfold Q_rm24 at hQ216
      obtain ⟨l_216, rfl, N216q, K216, ge_l_216, f216_0, f216_1, f216_2, f216_3, f216_4, f216_5⟩ := hQ216
      have N216 := Fr.app N215 N216q
      have g_l_216 : n0 ≤ l_216 := Nat.le_trans (old_le O198) ge_l_216
      have c217 : Fld Z T216.heap l_196 "java/util/ArrayList" "size" "I" (.int (0 : Int32)) := (Fld.keep f196_4 K216 (ninS (ne_exa f196_2 f196_0 (by decide)) nin0))
      have O218 : Old Z n0 T216.heap := Old.keep O198 K216 (allS g_b101 all0)
      have c220 : Exa Z T216.heap l_196 "java/util/ArrayList" := (Exa.keep f196_2 K216)
      obtain ⟨cq219, kq219, q219a, q219b, q219c⟩ := isOf hZ178 (rfl : T216.heap = T216.heap) c220
      obtain ⟨_, _, ⟨T219, L219, k219, n219⟩, -, X219, ⟨Lc219, hQ219, l219, y219, z219⟩, st219⟩ := X216.interfaceBack hx (xi := (⟨"java/util/List", "size", "()I"⟩ : MethodName)) (y := (⟨"java/util/ArrayList", "size", "()I"⟩ : MethodName)) hown178 (mvT hZ178 (hwk hw 228 rfl)) (mvT hZ178 (hwk hw 183 rfl)) (mvT hZ178 (hwk hw 184 rfl)) (mvT hZ178 (hwk hw 185 rfl)) (mvT hZ178 (hwk hw 186 rfl)) (mvT hZ178 (hwk hw 187 rfl)) (mvT hZ178 (hwk hw 188 rfl)) (mvT hZ178 (hwk hw 155 rfl)) (by decide) (backOf (W := 0) (rm19 l Z a0 hw [] l_196 (0 : Int32) T216.heap n0 O218 c217) hZ178 (hwk hw 189 rfl) (hwk hw 11 rfl) (by decide) (by decide)) q219a q219b q219c (g := (mkF m 259 #[.val (.int p0), .val (.int p1), .val (.int p2), .val (.int p3), .val (.int p4), .val (.int p5), .val (.ref b101), .val (.int (0 : Int32)), .val (.int (1 : Int32)), .val v173, .val v178, .val (.ref l_103), .val (.int (2 : Int32)), .val (.int (1 : Int32)), .val (.ref l_196), .unset] [(.ref l_196)])) rfl (by rw [hml]; rfl) (Steps.refl _) (argsL := []) (rest := []) (lenOf pd_8 rfl) rfl (by show 2 * 0 + _ ≤ _; exact Nat.le_of_eq rfl) (hb hby at_259) (fun _ _ => ⟨rfl, (rfl : T216.heap = T216.heap), (by decide : 32 + 0 ≤ _), (by decide : 192 + 0 ≤ _)⟩)
      dsimp only [Pt.U, Pt.locs, Pt.cells, Pt.slots] at X219 l219 y219 z219 st219 hQ219
      subst l219 y219 z219
      unfold Q_rm19 at hQ219
      obtain ⟨rfl, N219q, e219⟩ := hQ219
      have N219 := Fr.app N216 N219q
      obtain ⟨cq221, kq221, q221a, q221b, q221c⟩ := isOf hZ178 e219 f216_0
      obtain ⟨_, _, ⟨T221, L221, k221, n221⟩, -, X221, ⟨Lc221, hQ221, l221, y221, z221⟩, st221⟩ := X219.virtualBack hx (y := (⟨"com/example/fixlore/fixlore/lang/GraphBuilder", "join", "(ILjava/lang/String;)V"⟩ : MethodName)) (z := (⟨"com/example/fixlore/fixlore/lang/GraphBuilder", "join", "(ILjava/lang/String;)V"⟩ : MethodName)) hown178 (mvT hZ178 (hwk hw 222 rfl)) (mvT hZ178 (hwk hw 201 rfl)) (notFace_of_selects (args := #[]) (mvT hZ178 (hwk hw 203 rfl))) (mvT hZ178 (hwk hw 203 rfl)) (mvT hZ178 (hwk hw 202 rfl)) (by decide) (backOf (W := 0) (rm21_0 l Z a0 hw [] b101 p4 v173 l_216 (0 : Int32) wd kd vd T216.heap n0 O218 f216_1 f216_2 f216_3 f216_4 f216_5 g_l_216 (ne_exa f216_0 f216_2 (by decide)) SD VD hv173) hZ178 (hwk hw 204 rfl) (hwk hw 2 rfl) (by decide) (by decide)) q221a q221c (g := (mkF m 275 #[.val (.int p0), .val (.int p1), .val (.int p2), .val (.int p3), .val (.int p4), .val (.int p5), .val (.ref b101), .val (.int (0 : Int32)), .val (.int (1 : Int32)), .val v173, .val v178, .val (.ref l_103), .val (.int (2 : Int32)), .val (.int (1 : Int32)), .val (.ref l_196), .unset] [v173, (.int p4), (.ref b101)])) rfl (by rw [hml]; rfl) (Steps.refl _) (argsL := [(.int p4), v173]) (rest := []) (lenOf pd_9 rfl) rfl (by show 2 * 0 + _ ≤ _; exact Nat.le_of_eq rfl) (hb hby at_275) (fun _ _ => ⟨rfl, e219, (by decide : 32 + 2 ≤ _), (by decide : 192 + 12 ≤ _)⟩)
      dsimp only [Pt.U, Pt.locs, Pt.cells, Pt.slots] at X221 l221 y221 z221 st221 hQ221
      subst l221 y221 z221
      unfold Q_rm21_0 at hQ221
      obtain ⟨e_221, t_221, k_221, rfl, N221q, K221, ge_e_221, ge_t_221, f221_0, f221_1, f221_2, f221_3, f221_4, f221_5, f221_6, f221_7, f221_8, f221_9⟩ := hQ221
      have N221 := Fr.app N219 N221q
      have g_e_221 : n0 ≤ e_221 := Nat.le_trans (old_le O218) ge_e_221
      have g_t_221 : n0 ≤ t_221 := Nat.le_trans (old_le O218) ge_t_221
      have c222 : Fld Z T221.heap l_103 "java/util/ArrayList" "size" "I" (.int (2 : Int32)) := (Fld.keep (Fld.keep c197 K216 (ninS (ne_exa f103_2 f103_0 (by decide)) nin0)) K221 (ninS (Nat.ne_of_lt (Nat.lt_of_lt_of_le (c200).lt ge_l_216)) nin0))
      have O223 : Old Z n0 T221.heap := Old.keep O218 K221 (allS g_l_216 all0)
      have c225 : Exa Z T221.heap l_103 "java/util/ArrayList" := (Exa.keep (Exa.keep c200 K216) K221)
      obtain ⟨cq224, kq224, q224a, q224b, q224c⟩ := isOf hZ178 (rfl : T221.heap = T221.heap) c225
      obtain ⟨_, _, ⟨T224, L224, k224, n224⟩, -, X224, ⟨Lc224, hQ224, l224, y224, z224⟩, st224⟩ := X221.interfaceBack hx (xi := (⟨"java/util/List", "size", "()I"⟩ : MethodName)) (y := (⟨"java/util/ArrayList", "size", "()I"⟩ : MethodName)) hown178 (mvT hZ178 (hwk hw 228 rfl)) (mvT hZ178 (hwk hw 183 rfl)) (mvT hZ178 (hwk hw 184 rfl)) (mvT hZ178 (hwk hw 185 rfl)) (mvT hZ178 (hwk hw 186 rfl)) (mvT hZ178 (hwk hw 187 rfl)) (mvT hZ178 (hwk hw 188 rfl)) (mvT hZ178 (hwk hw 155 rfl)) (by decide) (backOf (W := 0) (rm19 l Z a0 hw [] l_103 (2 : Int32) T221.heap n0 O223 c222) hZ178 (hwk hw 189 rfl) (hwk hw 11 rfl) (by decide) (by decide)) q224a q224b q224c (g := (mkF m 280 #[.val (.int p0), .val (.int p1), .val (.int p2), .val (.int p3), .val (.int p4), .val (.int p5), .val (.ref b101), .val (.int (0 : Int32)), .val (.int (1 : Int32)), .val v173, .val v178, .val (.ref l_103), .val (.int (2 : Int32)), .val (.int (1 : Int32)), .val (.ref l_196), .unset] [(.ref l_103)])) rfl (by rw [hml]; rfl) (Steps.refl _) (argsL := []) (rest := []) (lenOf pd_8 rfl) rfl (by show 2 * 0 + _ ≤ _; exact Nat.le_of_eq rfl) (hb hby at_280) (fun _ _ => ⟨rfl, (rfl : T221.heap = T221.heap), (by decide : 34 + 0 ≤ _), (by decide : 204 + 0 ≤ _)⟩)
      dsimp only [Pt.U, Pt.locs, Pt.cells, Pt.slots] at X224 l224 y224 z224 st224 hQ224
      subst l224 y224 z224
      unfold Q_rm19 at hQ224
      obtain ⟨rfl, N224q, e224⟩ := hQ224
      have N224 := Fr.app N221 N224q
      have c226 : Exa Z T221.heap b101 "com/example/fixlore/fixlore/lang/GraphBuilder" := (Exa.keep f216_0 K221)
      have c227 : Fld Z T221.heap b101 "com/example/fixlore/fixlore/lang/GraphBuilder" "pending" "Ljava/util/List;" (.ref l_216) := (Fld.keep f216_1 K221 (ninS (ne_exa f216_0 f216_2 (by decide)) nin0))
      obtain ⟨cq228, kq228, q228a, q228b, q228c⟩ := isOf hZ178 e224 c226
      obtain ⟨_, _, ⟨T228, L228, k228, n228⟩, -, X228, ⟨Lc228, hQ228, l228, y228, z228⟩, st228⟩ := X224.virtualBack hx (y := (⟨"com/example/fixlore/fixlore/lang/GraphBuilder", "suspend", "()Ljava/util/List;"⟩ : MethodName)) (z := (⟨"com/example/fixlore/fixlore/lang/GraphBuilder", "suspend", "()Ljava/util/List;"⟩ : MethodName)) hown178 (mvT hZ178 (hwk hw 223 rfl)) (mvT hZ178 (hwk hw 224 rfl)) (notFace_of_selects (args := #[]) (mvT hZ178 (hwk hw 226 rfl))) (mvT hZ178 (hwk hw 226 rfl)) (mvT hZ178 (hwk hw 225 rfl)) (by decide) (backOf (W := 0) (rm24 l Z a0 hw [] b101 l_216 wd T221.heap n0 O223 c226 g_b101 c227 SD) hZ178 (hwk hw 227 rfl) (hwk hw 2 rfl) (by decide) (by decide)) q228a q228c (g := (mkF m 294 #[.val (.int p0), .val (.int p1), .val (.int p2), .val (.int p3), .val (.int p4), .val (.int p5), .val (.ref b101), .val (.int (0 : Int32)), .val (.int (1 : Int32)), .val v173, .val v178, .val (.ref l_103), .val (.int (2 : Int32)), .val (.int (1 : Int32)), .val (.ref l_196), .unset] [(.ref b101)])) rfl (by rw [hml]; rfl) (Steps.refl _) (argsL := []) (rest := []) (lenOf pd_19 rfl) rfl (by show 2 * 0 + _ ≤ _; exact Nat.le_of_eq rfl) (hb hby at_294) (fun _ _ => ⟨rfl, e224, (by decide : 34 + 1 ≤ _), (by decide : 204 + 3 ≤ _)⟩)
      dsimp only [Pt.U, Pt.locs, Pt.cells, Pt.slots] at X228 l228 y228 z228 st228 hQ228
      subst l228 y228 z228
      unfold Q_rm24 at hQ228
      obtain ⟨l_228, rfl, N228q, K228, ge_l_228, f228_0, f228_1, f228_2, f228_3, f228_4, f228_5⟩ := hQ228
      have N228 := Fr.app N224 N228q
      have g_l_228 : n0 ≤ l_228 := Nat.le_trans (old_le O223) ge_l_228
      have c229 : Fld Z T228.heap l_216 "java/util/ArrayList" "size" "I" (.int (1 : Int32)) := (Fld.keep f221_2 K228 (ninS (ne_exa f216_2 f216_0 (by decide)) nin0))
      have O230 : Old Z n0 T228.heap := Old.keep O223 K228 (allS g_b101 all0)
      have c232 : Exa Z T228.heap l_216 "java/util/ArrayList" := (Exa.keep f221_0 K228)
      obtain ⟨cq231, kq231, q231a, q231b, q231c⟩ := isOf hZ178 (rfl : T228.heap = T228.heap) c232
      obtain ⟨_, _, ⟨T231, L231, k231, n231⟩, -, X231, ⟨Lc231, hQ231, l231, y231, z231⟩, st231⟩ := X228.interfaceBack hx (xi := (⟨"java/util/List", "size", "()I"⟩ : MethodName)) (y := (⟨"java/util/ArrayList", "size", "()I"⟩ : MethodName)) hown178 (mvT hZ178 (hwk hw 228 rfl)) (mvT hZ178 (hwk hw 183 rfl)) (mvT hZ178 (hwk hw 184 rfl)) (mvT hZ178 (hwk hw 185 rfl)) (mvT hZ178 (hwk hw 186 rfl)) (mvT hZ178 (hwk hw 187 rfl)) (mvT hZ178 (hwk hw 188 rfl)) (mvT hZ178 (hwk hw 155 rfl)) (by decide) (backOf (W := 0) (rm19 l Z a0 hw [] l_216 (1 : Int32) T228.heap n0 O230 c229) hZ178 (hwk hw 189 rfl) (hwk hw 11 rfl) (by decide) (by decide)) q231a q231b q231c (g := (mkF m 301 #[.val (.int p0), .val (.int p1), .val (.int p2), .val (.int p3), .val (.int p4), .val (.int p5), .val (.ref b101), .val (.int (0 : Int32)), .val (.int (1 : Int32)), .val v173, .val v178, .val (.ref l_103), .val (.int (2 : Int32)), .val (.int (1 : Int32)), .val (.ref l_196), .val (.ref l_216)] [(.ref l_216)])) rfl (by rw [hml]; rfl) (Steps.refl _) (argsL := []) (rest := []) (lenOf pd_8 rfl) rfl (by show 2 * 0 + _ ≤ _; exact Nat.le_of_eq rfl) (hb hby at_301) (fun _ _ => ⟨rfl, (rfl : T228.heap = T228.heap), (by decide : 35 + 0 ≤ _), (by decide : 207 + 0 ≤ _)⟩)
      dsimp only [Pt.U, Pt.locs, Pt.cells, Pt.slots] at X231 l231 y231 z231 st231 hQ231
      subst l231 y231 z231
      unfold Q_rm19 at hQ231
      obtain ⟨rfl, N231q, e231⟩ := hQ231
      have N231 := Fr.app N228 N231q
      have c233 : Fld Z T228.heap l_216 "java/util/ArrayList" "elementData" "[Ljava/lang/Object;" (.ref t_221) := (Fld.keep f221_1 K228 (ninS (ne_exa f216_2 f216_0 (by decide)) nin0))
      have c234 : Arv Z T228.heap t_221 k_221 (.object "java/lang/Object") (10 : Int32) [(.ref e_221), .null, .null, .null, .null, .null, .null, .null, .null, .null] .null := (Arv.keep f221_4 K228 (ninS (Ne.symm (Exa.neArv c226 f221_4 (hwk hw 1 rfl))) nin0))
      obtain ⟨cq235, kq235, q235a, q235b, q235c⟩ := isOf hZ178 e231 c232
      obtain ⟨_, _, ⟨T235, L235, k235, n235⟩, -, X235, ⟨Lc235, hQ235, l235, y235, z235⟩, st235⟩ := X231.interfaceBack hx (xi := (⟨"java/util/List", "get", "(I)Ljava/lang/Object;"⟩ : MethodName)) (y := (⟨"java/util/ArrayList", "get", "(I)Ljava/lang/Object;"⟩ : MethodName)) hown178 (mvT hZ178 (hwk hw 229 rfl)) (mvT hZ178 (hwk hw 230 rfl)) (mvT hZ178 (hwk hw 231 rfl)) (mvT hZ178 (hwk hw 232 rfl)) (mvT hZ178 (hwk hw 233 rfl)) (mvT hZ178 (hwk hw 234 rfl)) (mvT hZ178 (hwk hw 235 rfl)) (mvT hZ178 (hwk hw 155 rfl)) (by decide) (backOf (W := 0) (rm25 l Z a0 hw [] l_216 (0 : Int32) (1 : Int32) t_221 k_221 ([(.ref e_221), .null, .null, .null, .null, .null, .null, .null, .null, .null]) e_221 T228.heap n0 O230 c232 c229 c233 c234 rfl (by decide) (by decide) (by decide)) hZ178 (hwk hw 236 rfl) (hwk hw 11 rfl) (by decide) (by decide)) q235a q235b q235c (g := (mkF m 313 #[.val (.int p0), .val (.int p1), .val (.int p2), .val (.int p3), .val (.int p4), .val (.int p5), .val (.ref b101), .val (.int (0 : Int32)), .val (.int (1 : Int32)), .val v173, .val v178, .val (.ref l_103), .val (.int (2 : Int32)), .val (.int (1 : Int32)), .val (.ref l_196), .val (.ref l_216)] [(.int (0 : Int32)), (.ref l_216)])) rfl (by rw [hml]; rfl) (Steps.refl _) (argsL := [(.int (0 : Int32))]) (rest := []) (lenOf pd_11 rfl) rfl (by show 2 * 0 + _ ≤ _; exact Nat.le_of_eq rfl) (hb hby at_313) (fun _ _ => ⟨rfl, e231, (by decide : 35 + 0 ≤ _), (by decide : 207 + 0 ≤ _)⟩)
      dsimp only [Pt.U, Pt.locs, Pt.cells, Pt.slots] at X235 l235 y235 z235 st235 hQ235
      subst l235 y235 z235
      unfold Q_rm25 at hQ235
      obtain ⟨rfl, N235q, e235⟩ := hQ235
      have N235 := Fr.app N231 N235q
      have c236 : Exa Z T228.heap e_221 "com/example/fixlore/fixlore/lang/GraphBuilder$End" := (Exa.keep f221_6 K228)
      obtain ⟨T237, X237, e237, st237⟩ := castY X235 hx hZ178 hown178 (hwk hw 250 rfl) e235 (Ins.self c236) (g := (mkF m 318 #[.val (.int p0), .val (.int p1), .val (.int p2), .val (.int p3), .val (.int p4), .val (.int p5), .val (.ref b101), .val (.int (0 : Int32)), .val (.int (1 : Int32)), .val v173, .val v178, .val (.ref l_103), .val (.int (2 : Int32)), .val (.int (1 : Int32)), .val (.ref l_196), .val (.ref l_216)] [(.ref e_221)])) rfl rfl (hb hby at_318)
      have c238 : Fld Z T228.heap e_221 "com/example/fixlore/fixlore/lang/GraphBuilder$End" "from" "I" (.int p4) := (Fld.keep f221_7 K228 (ninS (ne_exa f221_6 c226 (by decide)) nin0))
      have c239 : Fld Z T228.heap e_221 "com/example/fixlore/fixlore/lang/GraphBuilder$End" "branch" "Ljava/lang/String;" v173 := (Fld.keep f221_8 K228 (ninS (ne_exa f221_6 c226 (by decide)) nin0))
      have c240 : OptExa Z T228.heap v173 "java/lang/String" := (own_mkeep K228 (own_mkeep K221 (own_mkeep K216 (own_mkeep K196 (own_mkeep K191 (own_mkeep K178 Mj173))))))
      obtain ⟨_, _, ⟨T241, L241, k241, n241⟩, -, X241, ⟨Lc241, hQ241, l241, y241, z241⟩, st241⟩ := Jvm.LawKit.callS X237 hx (y := (⟨"com/example/fixlore/fixlore/lang/GraphBuilderSuspendPinLaw", "endIs", "(Lcom/example/fixlore/fixlore/lang/GraphBuilder$End;ILjava/lang/String;)Z"⟩ : MethodName)) hown178 (mvT hZ178 (hwk hw 252 rfl)) (mvT hZ178 (hwk hw 253 rfl)) (mvT hZ178 (hwk hw 254 rfl)) (mvT hZ178 (hwk hw 255 rfl)) (by decide) (backOf (W := 0) (rm29 l Z a0 hw [] e_221 p4 v173 T228.heap n0 O230 c236 c238 c239 hv173 c240) hZ178 (hwk hw 255 rfl) (hwk hw 254 rfl) (by decide) (by decide)) (g := (mkF m 325 #[.val (.int p0), .val (.int p1), .val (.int p2), .val (.int p3), .val (.int p4), .val (.int p5), .val (.ref b101), .val (.int (0 : Int32)), .val (.int (1 : Int32)), .val v173, .val v178, .val (.ref l_103), .val (.int (2 : Int32)), .val (.int (1 : Int32)), .val (.ref l_196), .val (.ref l_216)] [v173, (.int p4), (.ref e_221)])) rfl (by rw [hml]; rfl) (argsL := [(.ref e_221), (.int p4), v173]) (rest := []) (lenOf pd_20 rfl) rfl (by show 2 * 0 + _ ≤ _; exact Nat.le_of_eq rfl) (hb hby at_325) (fun _ _ => ⟨rfl, e237, (by decide : 35 + 0 ≤ _), (by decide : 207 + 0 ≤ _)⟩)
      dsimp only [Pt.U, Pt.locs, Pt.cells, Pt.slots] at X241 l241 y241 z241 st241 hQ241
      subst l241 y241 z241
      unfold Q_rm29 at hQ241
      obtain ⟨rfl, N241q, e241⟩ := hQ241
      have N241 := Fr.app N235 N241q
      have K242 : Keep h0 h101 [] := Keep.ext (Keep.refl h0 []) E101
      have K243 : Keep h0 T103.heap [] := Keep.trans K242 K103 (allS (Or.inr (Nat.le_trans (Nat.le_refl _) (Nat.le_of_eq g101.symm))) all0)
      have K244 : Keep h0 h173 [] := Keep.trans K243 K173 all0
      have K245 : Keep h0 h178 [] := Keep.trans K244 K178 all0
      have K246 : Keep h0 T191.heap [] := Keep.trans K245 K191 (allS (Or.inr (Nat.le_trans (Nat.le_trans (Nat.le_refl _) E101.1) ge_l_103)) (allS (Or.inr (Nat.le_trans (Nat.le_trans (Nat.le_refl _) E101.1) ge_t_103)) all0))
      have K247 : Keep h0 T196.heap [] := Keep.trans K246 K196 (allS (Or.inr (Nat.le_trans (Nat.le_refl _) (Nat.le_of_eq g101.symm))) all0)
      have K248 : Keep h0 T216.heap [] := Keep.trans K247 K216 (allS (Or.inr (Nat.le_trans (Nat.le_refl _) (Nat.le_of_eq g101.symm))) all0)
      have K249 : Keep h0 T221.heap [] := Keep.trans K248 K221 (allS (Or.inr (Nat.le_trans (Nat.le_trans (Nat.le_trans (Nat.le_trans (Nat.le_trans (Nat.le_trans (Nat.le_trans (Nat.le_refl _) E101.1) K103.1) K173.1) K178.1) K191.1) K196.1) ge_l_216)) all0)
      have K250 : Keep h0 T228.heap [] := Keep.trans K249 K228 (allS (Or.inr (Nat.le_trans (Nat.le_refl _) (Nat.le_of_eq g101.symm))) all0)
      obtain ⟨fs, hr, hrun, hended, hRE⟩ := X241.leaveW hS178 (show _ ≤ T241.heap.size from by rw [e241]; exact (Nat.le_trans hk178 (Nat.le_trans (Nat.le_trans (Nat.le_trans (Nat.le_trans (Nat.le_trans (Nat.le_refl _) K191.1) K196.1) K216.1) K221.1) K228.1))) (v := some (.int (1 : Int32))) (fun h => by rw [Bd.returns] at h; cases h)
      refine ⟨_, _, S178 _ ?_, hrun, hended, _, _, rfl, ?_, hRE.1, hRE.2.1, hRE.2.2.1, hRE.2.2.2.mono (by decide) (by decide)⟩
      · show Steps p.tables e below (T178.setTop (mkF m 91 #[.val (.int p0), .val (.int p1), .val (.int p2), .val (.int p3), .val (.int p4), .val (.int p5), .val (.ref b101), .val (.int (0 : Int32)), .val (.int (1 : Int32)), .val v173, .unset, .unset, .unset, .unset, .unset, .unset] [v178])) _
        refine XS.astore X178.here hx rfl (hb hby at_91) rfl hv178 (l' := #[.val (.int p0), .val (.int p1), .val (.int p2), .val (.int p3), .val (.int p4), .val (.int p5), .val (.ref b101), .val (.int (0 : Int32)), .val (.int (1 : Int32)), .val v173, .val v178, .unset, .unset, .unset, .unset, .unset]) (XS.store1 (o := .unset) rfl (Or.inl rfl) (XT.cat1 hv178)) ?_
        show Steps p.tables e below (T178.setTop (mkF m 93 #[.val (.int p0), .val (.int p1), .val (.int p2), .val (.int p3), .val (.int p4), .val (.int p5), .val (.ref b101), .val (.int (0 : Int32)), .val (.int (1 : Int32)), .val v173, .val v178, .unset, .unset, .unset, .unset, .unset] [])) _
        refine XS.iload X178.here hx rfl (hb hby at_93) rfl ?_
        refine XS.ifYes X178.here hx rfl (pc0 := 95) (pc' := 106) rfl (hb hby at_95) rfl ((if0 _ _).trans (teq (by decide : (0 : Int32) = (0 : Int32))).1) (by decide) (by decide) ?_
        show Steps p.tables e below (T178.setTop (mkF m 106 #[.val (.int p0), .val (.int p1), .val (.int p2), .val (.int p3), .val (.int p4), .val (.int p5), .val (.ref b101), .val (.int (0 : Int32)), .val (.int (1 : Int32)), .val v173, .val v178, .unset, .unset, .unset, .unset, .unset] [])) _
        refine XS.iload X178.here hx rfl (hb hby at_106) rfl ?_
        refine XS.ifNo X178.here hx rfl (hb hby at_108) rfl ((if0 _ _).trans (feq (by decide : ¬ ((1 : Int32) = (0 : Int32)))).1) ?_
        show Steps p.tables e below (T178.setTop (mkF m 111 #[.val (.int p0), .val (.int p1), .val (.int p2), .val (.int p3), .val (.int p4), .val (.int p5), .val (.ref b101), .val (.int (0 : Int32)), .val (.int (1 : Int32)), .val v173, .val v178, .unset, .unset, .unset, .unset, .unset] [])) _
        refine XS.aload X178.here hx rfl (hb hby at_111) rfl rfl ?_
        refine XS.iload X178.here hx rfl (hb hby at_113) rfl ?_
        refine XS.aload X178.here hx rfl (hb hby at_115) rfl hv178 ?_
        show Steps p.tables e below (T178.setTop (mkF m 117 #[.val (.int p0), .val (.int p1), .val (.int p2), .val (.int p3), .val (.int p4), .val (.int p5), .val (.ref b101), .val (.int (0 : Int32)), .val (.int (1 : Int32)), .val v173, .val v178, .unset, .unset, .unset, .unset, .unset] [v178, (.int p4), (.ref b101)])) _
        refine st191.trans ?_
        show Steps p.tables e below (T191.setTop (mkF m 120 #[.val (.int p0), .val (.int p1), .val (.int p2), .val (.int p3), .val (.int p4), .val (.int p5), .val (.ref b101), .val (.int (0 : Int32)), .val (.int (1 : Int32)), .val v173, .val v178, .unset, .unset, .unset, .unset, .unset] [])) _
        refine XS.aload X191.here hx rfl (hb hby at_120) rfl rfl ?_
        show Steps p.tables e below (T191.setTop (mkF m 122 #[.val (.int p0), .val (.int p1), .val (.int p2), .val (.int p3), .val (.int p4), .val (.int p5), .val (.ref b101), .val (.int (0 : Int32)), .val (.int (1 : Int32)), .val v173, .val v178, .unset, .unset, .unset, .unset, .unset] [(.ref b101)])) _
        refine st196.trans ?_
        show Steps p.tables e below (T196.setTop (mkF m 125 #[.val (.int p0), .val (.int p1), .val (.int p2), .val (.int p3), .val (.int p4), .val (.int p5), .val (.ref b101), .val (.int (0 : Int32)), .val (.int (1 : Int32)), .val v173, .val v178, .unset, .unset, .unset, .unset, .unset] [(.ref l_103)])) _
        refine XS.astore X196.here hx rfl (hb hby at_125) rfl rfl (l' := #[.val (.int p0), .val (.int p1), .val (.int p2), .val (.int p3), .val (.int p4), .val (.int p5), .val (.ref b101), .val (.int (0 : Int32)), .val (.int (1 : Int32)), .val v173, .val v178, .val (.ref l_103), .unset, .unset, .unset, .unset]) rfl ?_
        show Steps p.tables e below (T196.setTop (mkF m 127 #[.val (.int p0), .val (.int p1), .val (.int p2), .val (.int p3), .val (.int p4), .val (.int p5), .val (.ref b101), .val (.int (0 : Int32)), .val (.int (1 : Int32)), .val v173, .val v178, .val (.ref l_103), .unset, .unset, .unset, .unset] [])) _
        refine XS.iconst X196.here hx rfl (hb hby at_127) ?_
        refine XS.iload X196.here hx rfl (hb hby at_128) rfl ?_
        refine XS.ifYes X196.here hx rfl (pc0 := 130) (pc' := 137) rfl (hb hby at_130) rfl ((if0 _ _).trans (teq (by decide : (0 : Int32) = (0 : Int32))).1) (by decide) (by decide) ?_
        show Steps p.tables e below (T196.setTop (mkF m 137 #[.val (.int p0), .val (.int p1), .val (.int p2), .val (.int p3), .val (.int p4), .val (.int p5), .val (.ref b101), .val (.int (0 : Int32)), .val (.int (1 : Int32)), .val v173, .val v178, .val (.ref l_103), .unset, .unset, .unset, .unset] [(.int (1 : Int32))])) _
        refine XS.iconst X196.here hx rfl (hb hby at_137) ?_
        refine XS.iadd X196.here hx rfl (hb hby at_138) rfl ?_
        show Steps p.tables e below (T196.setTop (mkF m 139 #[.val (.int p0), .val (.int p1), .val (.int p2), .val (.int p3), .val (.int p4), .val (.int p5), .val (.ref b101), .val (.int (0 : Int32)), .val (.int (1 : Int32)), .val v173, .val v178, .val (.ref l_103), .unset, .unset, .unset, .unset] [(.int ((1 : Int32) + (0 : Int32)))])) _
        rw [show ((1 : Int32) + (0 : Int32)) = (1 : Int32) from by decide]
        show Steps p.tables e below (T196.setTop (mkF m 139 #[.val (.int p0), .val (.int p1), .val (.int p2), .val (.int p3), .val (.int p4), .val (.int p5), .val (.ref b101), .val (.int (0 : Int32)), .val (.int (1 : Int32)), .val v173, .val v178, .val (.ref l_103), .unset, .unset, .unset, .unset] [(.int (1 : Int32))])) _
        refine XS.iload X196.here hx rfl (hb hby at_139) rfl ?_
        refine XS.ifNo X196.here hx rfl (hb hby at_141) rfl ((if0 _ _).trans (feq (by decide : ¬ ((1 : Int32) = (0 : Int32)))).1) ?_
        show Steps p.tables e below (T196.setTop (mkF m 144 #[.val (.int p0), .val (.int p1), .val (.int p2), .val (.int p3), .val (.int p4), .val (.int p5), .val (.ref b101), .val (.int (0 : Int32)), .val (.int (1 : Int32)), .val v173, .val v178, .val (.ref l_103), .unset, .unset, .unset, .unset] [(.int (1 : Int32))])) _
        refine XS.iconst X196.here hx rfl (hb hby at_144) ?_
        refine XS.goto X196.here hx rfl (pc0 := 145) (pc' := 149) rfl (hb hby at_145) (by decide) (by decide) ?_
        show Steps p.tables e below (T196.setTop (mkF m 149 #[.val (.int p0), .val (.int p1), .val (.int p2), .val (.int p3), .val (.int p4), .val (.int p5), .val (.ref b101), .val (.int (0 : Int32)), .val (.int (1 : Int32)), .val v173, .val v178, .val (.ref l_103), .unset, .unset, .unset, .unset] [(.int (1 : Int32)), (.int (1 : Int32))])) _
        refine XS.iadd X196.here hx rfl (hb hby at_149) rfl ?_
        show Steps p.tables e below (T196.setTop (mkF m 150 #[.val (.int p0), .val (.int p1), .val (.int p2), .val (.int p3), .val (.int p4), .val (.int p5), .val (.ref b101), .val (.int (0 : Int32)), .val (.int (1 : Int32)), .val v173, .val v178, .val (.ref l_103), .unset, .unset, .unset, .unset] [(.int ((1 : Int32) + (1 : Int32)))])) _
        rw [show ((1 : Int32) + (1 : Int32)) = (2 : Int32) from by decide]
        show Steps p.tables e below (T196.setTop (mkF m 150 #[.val (.int p0), .val (.int p1), .val (.int p2), .val (.int p3), .val (.int p4), .val (.int p5), .val (.ref b101), .val (.int (0 : Int32)), .val (.int (1 : Int32)), .val v173, .val v178, .val (.ref l_103), .unset, .unset, .unset, .unset] [(.int (2 : Int32))])) _
        refine XS.istore X196.here hx rfl (hb hby at_150) rfl (l' := #[.val (.int p0), .val (.int p1), .val (.int p2), .val (.int p3), .val (.int p4), .val (.int p5), .val (.ref b101), .val (.int (0 : Int32)), .val (.int (1 : Int32)), .val v173, .val v178, .val (.ref l_103), .val (.int (2 : Int32)), .unset, .unset, .unset]) rfl ?_
        show Steps p.tables e below (T196.setTop (mkF m 152 #[.val (.int p0), .val (.int p1), .val (.int p2), .val (.int p3), .val (.int p4), .val (.int p5), .val (.ref b101), .val (.int (0 : Int32)), .val (.int (1 : Int32)), .val v173, .val v178, .val (.ref l_103), .val (.int (2 : Int32)), .unset, .unset, .unset] [])) _
        refine XS.aload X196.here hx rfl (hb hby at_152) rfl rfl ?_
        show Steps p.tables e below (T196.setTop (mkF m 154 #[.val (.int p0), .val (.int p1), .val (.int p2), .val (.int p3), .val (.int p4), .val (.int p5), .val (.ref b101), .val (.int (0 : Int32)), .val (.int (1 : Int32)), .val v173, .val v178, .val (.ref l_103), .val (.int (2 : Int32)), .unset, .unset, .unset] [(.ref l_103)])) _
        refine st199.trans ?_
        show Steps p.tables e below (T199.setTop (mkF m 159 #[.val (.int p0), .val (.int p1), .val (.int p2), .val (.int p3), .val (.int p4), .val (.int p5), .val (.ref b101), .val (.int (0 : Int32)), .val (.int (1 : Int32)), .val v173, .val v178, .val (.ref l_103), .val (.int (2 : Int32)), .unset, .unset, .unset] [(.int (2 : Int32))])) _
        refine XS.iload X199.here hx rfl (hb hby at_159) rfl ?_
        refine XS.icmpYes X199.here hx rfl (pc0 := 161) (pc' := 166) rfl (hb hby at_161) rfl (teq (by decide : (2 : Int32) = (2 : Int32))).1 (by decide) (by decide) ?_
        show Steps p.tables e below (T199.setTop (mkF m 166 #[.val (.int p0), .val (.int p1), .val (.int p2), .val (.int p3), .val (.int p4), .val (.int p5), .val (.ref b101), .val (.int (0 : Int32)), .val (.int (1 : Int32)), .val v173, .val v178, .val (.ref l_103), .val (.int (2 : Int32)), .unset, .unset, .unset] [])) _
        refine XS.aload X199.here hx rfl (hb hby at_166) rfl rfl ?_
        refine XS.iconst X199.here hx rfl (hb hby at_168) ?_
        show Steps p.tables e below (T199.setTop (mkF m 169 #[.val (.int p0), .val (.int p1), .val (.int p2), .val (.int p3), .val (.int p4), .val (.int p5), .val (.ref b101), .val (.int (0 : Int32)), .val (.int (1 : Int32)), .val v173, .val v178, .val (.ref l_103), .val (.int (2 : Int32)), .unset, .unset, .unset] [(.int (0 : Int32)), (.ref l_103)])) _
        refine st203.trans ?_
        show Steps p.tables e below (T203.setTop (mkF m 174 #[.val (.int p0), .val (.int p1), .val (.int p2), .val (.int p3), .val (.int p4), .val (.int p5), .val (.ref b101), .val (.int (0 : Int32)), .val (.int (1 : Int32)), .val v173, .val v178, .val (.ref l_103), .val (.int (2 : Int32)), .unset, .unset, .unset] [(.ref e_103)])) _
        refine st205 _ ?_
        show Steps p.tables e below (T205.setTop (mkF m 177 #[.val (.int p0), .val (.int p1), .val (.int p2), .val (.int p3), .val (.int p4), .val (.int p5), .val (.ref b101), .val (.int (0 : Int32)), .val (.int (1 : Int32)), .val v173, .val v178, .val (.ref l_103), .val (.int (2 : Int32)), .unset, .unset, .unset] [(.ref e_103)])) _
        refine XS.iconst X205.here hx rfl (hb hby at_177) ?_
        refine XS.aconstNull X205.here hx rfl (hb hby at_178) ?_
        show Steps p.tables e below (T205.setTop (mkF m 179 #[.val (.int p0), .val (.int p1), .val (.int p2), .val (.int p3), .val (.int p4), .val (.int p5), .val (.ref b101), .val (.int (0 : Int32)), .val (.int (1 : Int32)), .val v173, .val v178, .val (.ref l_103), .val (.int (2 : Int32)), .unset, .unset, .unset] [.null, (.int (0 : Int32)), (.ref e_103)])) _
        refine st208 _ ?_
        show Steps p.tables e below (T208.setTop (mkF m 182 #[.val (.int p0), .val (.int p1), .val (.int p2), .val (.int p3), .val (.int p4), .val (.int p5), .val (.ref b101), .val (.int (0 : Int32)), .val (.int (1 : Int32)), .val v173, .val v178, .val (.ref l_103), .val (.int (2 : Int32)), .unset, .unset, .unset] [(.int (1 : Int32))])) _
        refine XS.ifYes X208.here hx rfl (pc0 := 182) (pc' := 187) rfl (hb hby at_182) rfl ((if0 _ _).trans (feq (by decide : ¬ ((1 : Int32) = (0 : Int32)))).2) (by decide) (by decide) ?_
        show Steps p.tables e below (T208.setTop (mkF m 187 #[.val (.int p0), .val (.int p1), .val (.int p2), .val (.int p3), .val (.int p4), .val (.int p5), .val (.ref b101), .val (.int (0 : Int32)), .val (.int (1 : Int32)), .val v173, .val v178, .val (.ref l_103), .val (.int (2 : Int32)), .unset, .unset, .unset] [])) _
        refine XS.iconst X208.here hx rfl (hb hby at_187) ?_
        refine XS.istore X208.here hx rfl (hb hby at_188) rfl (l' := #[.val (.int p0), .val (.int p1), .val (.int p2), .val (.int p3), .val (.int p4), .val (.int p5), .val (.ref b101), .val (.int (0 : Int32)), .val (.int (1 : Int32)), .val v173, .val v178, .val (.ref l_103), .val (.int (2 : Int32)), .val (.int (1 : Int32)), .unset, .unset]) rfl ?_
        show Steps p.tables e below (T208.setTop (mkF m 190 #[.val (.int p0), .val (.int p1), .val (.int p2), .val (.int p3), .val (.int p4), .val (.int p5), .val (.ref b101), .val (.int (0 : Int32)), .val (.int (1 : Int32)), .val v173, .val v178, .val (.ref l_103), .val (.int (2 : Int32)), .val (.int (1 : Int32)), .unset, .unset] [])) _
        refine XS.iload X208.here hx rfl (hb hby at_190) rfl ?_
        refine XS.ifYes X208.here hx rfl (pc0 := 192) (pc' := 221) rfl (hb hby at_192) rfl ((if0 _ _).trans (teq (by decide : (0 : Int32) = (0 : Int32))).1) (by decide) (by decide) ?_
        show Steps p.tables e below (T208.setTop (mkF m 221 #[.val (.int p0), .val (.int p1), .val (.int p2), .val (.int p3), .val (.int p4), .val (.int p5), .val (.ref b101), .val (.int (0 : Int32)), .val (.int (1 : Int32)), .val v173, .val v178, .val (.ref l_103), .val (.int (2 : Int32)), .val (.int (1 : Int32)), .unset, .unset] [])) _
        refine XS.iload X208.here hx rfl (hb hby at_221) rfl ?_
        refine XS.ifNo X208.here hx rfl (hb hby at_223) rfl ((if0 _ _).trans (feq (by decide : ¬ ((1 : Int32) = (0 : Int32)))).1) ?_
        show Steps p.tables e below (T208.setTop (mkF m 226 #[.val (.int p0), .val (.int p1), .val (.int p2), .val (.int p3), .val (.int p4), .val (.int p5), .val (.ref b101), .val (.int (0 : Int32)), .val (.int (1 : Int32)), .val v173, .val v178, .val (.ref l_103), .val (.int (2 : Int32)), .val (.int (1 : Int32)), .unset, .unset] [])) _
        refine XS.aload X208.here hx rfl (hb hby at_226) rfl rfl ?_
        refine XS.iload X208.here hx rfl (hb hby at_228) rfl ?_
        show Steps p.tables e below (T208.setTop (mkF m 230 #[.val (.int p0), .val (.int p1), .val (.int p2), .val (.int p3), .val (.int p4), .val (.int p5), .val (.ref b101), .val (.int (0 : Int32)), .val (.int (1 : Int32)), .val v173, .val v178, .val (.ref l_103), .val (.int (2 : Int32)), .val (.int (1 : Int32)), .unset, .unset] [(.int (1 : Int32)), (.ref l_103)])) _
        refine st209.trans ?_
        show Steps p.tables e below (T209.setTop (mkF m 235 #[.val (.int p0), .val (.int p1), .val (.int p2), .val (.int p3), .val (.int p4), .val (.int p5), .val (.ref b101), .val (.int (0 : Int32)), .val (.int (1 : Int32)), .val v173, .val v178, .val (.ref l_103), .val (.int (2 : Int32)), .val (.int (1 : Int32)), .unset, .unset] [(.ref e_191)])) _
        refine st211 _ ?_
        show Steps p.tables e below (T211.setTop (mkF m 238 #[.val (.int p0), .val (.int p1), .val (.int p2), .val (.int p3), .val (.int p4), .val (.int p5), .val (.ref b101), .val (.int (0 : Int32)), .val (.int (1 : Int32)), .val v173, .val v178, .val (.ref l_103), .val (.int (2 : Int32)), .val (.int (1 : Int32)), .unset, .unset] [(.ref e_191)])) _
        refine XS.iload X211.here hx rfl (hb hby at_238) rfl ?_
        refine XS.aload X211.here hx rfl (hb hby at_240) rfl hv178 ?_
        show Steps p.tables e below (T211.setTop (mkF m 242 #[.val (.int p0), .val (.int p1), .val (.int p2), .val (.int p3), .val (.int p4), .val (.int p5), .val (.ref b101), .val (.int (0 : Int32)), .val (.int (1 : Int32)), .val v173, .val v178, .val (.ref l_103), .val (.int (2 : Int32)), .val (.int (1 : Int32)), .unset, .unset] [v178, (.int p4), (.ref e_191)])) _
        refine st215 _ ?_
        show Steps p.tables e below (T215.setTop (mkF m 245 #[.val (.int p0), .val (.int p1), .val (.int p2), .val (.int p3), .val (.int p4), .val (.int p5), .val (.ref b101), .val (.int (0 : Int32)), .val (.int (1 : Int32)), .val v173, .val v178, .val (.ref l_103), .val (.int (2 : Int32)), .val (.int (1 : Int32)), .unset, .unset] [(.int (1 : Int32))])) _
        refine XS.ifYes X215.here hx rfl (pc0 := 245) (pc' := 250) rfl (hb hby at_245) rfl ((if0 _ _).trans (feq (by decide : ¬ ((1 : Int32) = (0 : Int32)))).2) (by decide) (by decide) ?_
        show Steps p.tables e below (T215.setTop (mkF m 250 #[.val (.int p0), .val (.int p1), .val (.int p2), .val (.int p3), .val (.int p4), .val (.int p5), .val (.ref b101), .val (.int (0 : Int32)), .val (.int (1 : Int32)), .val v173, .val v178, .val (.ref l_103), .val (.int (2 : Int32)), .val (.int (1 : Int32)), .unset, .unset] [])) _
        refine XS.aload X215.here hx rfl (hb hby at_250) rfl rfl ?_
        show Steps p.tables e below (T215.setTop (mkF m 252 #[.val (.int p0), .val (.int p1), .val (.int p2), .val (.int p3), .val (.int p4), .val (.int p5), .val (.ref b101), .val (.int (0 : Int32)), .val (.int (1 : Int32)), .val v173, .val v178, .val (.ref l_103), .val (.int (2 : Int32)), .val (.int (1 : Int32)), .unset, .unset] [(.ref b101)])) _
        refine st216.trans ?_
        show Steps p.tables e below (T216.setTop (mkF m 255 #[.val (.int p0), .val (.int p1), .val (.int p2), .val (.int p3), .val (.int p4), .val (.int p5), .val (.ref b101), .val (.int (0 : Int32)), .val (.int (1 : Int32)), .val v173, .val v178, .val (.ref l_103), .val (.int (2 : Int32)), .val (.int (1 : Int32)), .unset, .unset] [(.ref l_196)])) _
        refine XS.astore X216.here hx rfl (hb hby at_255) rfl rfl (l' := #[.val (.int p0), .val (.int p1), .val (.int p2), .val (.int p3), .val (.int p4), .val (.int p5), .val (.ref b101), .val (.int (0 : Int32)), .val (.int (1 : Int32)), .val v173, .val v178, .val (.ref l_103), .val (.int (2 : Int32)), .val (.int (1 : Int32)), .val (.ref l_196), .unset]) rfl ?_
        show Steps p.tables e below (T216.setTop (mkF m 257 #[.val (.int p0), .val (.int p1), .val (.int p2), .val (.int p3), .val (.int p4), .val (.int p5), .val (.ref b101), .val (.int (0 : Int32)), .val (.int (1 : Int32)), .val v173, .val v178, .val (.ref l_103), .val (.int (2 : Int32)), .val (.int (1 : Int32)), .val (.ref l_196), .unset] [])) _
        refine XS.aload X216.here hx rfl (hb hby at_257) rfl rfl ?_
        show Steps p.tables e below (T216.setTop (mkF m 259 #[.val (.int p0), .val (.int p1), .val (.int p2), .val (.int p3), .val (.int p4), .val (.int p5), .val (.ref b101), .val (.int (0 : Int32)), .val (.int (1 : Int32)), .val v173, .val v178, .val (.ref l_103), .val (.int (2 : Int32)), .val (.int (1 : Int32)), .val (.ref l_196), .unset] [(.ref l_196)])) _
        refine st219.trans ?_
        show Steps p.tables e below (T219.setTop (mkF m 264 #[.val (.int p0), .val (.int p1), .val (.int p2), .val (.int p3), .val (.int p4), .val (.int p5), .val (.ref b101), .val (.int (0 : Int32)), .val (.int (1 : Int32)), .val v173, .val v178, .val (.ref l_103), .val (.int (2 : Int32)), .val (.int (1 : Int32)), .val (.ref l_196), .unset] [(.int (0 : Int32))])) _
        refine XS.ifYes X219.here hx rfl (pc0 := 264) (pc' := 269) rfl (hb hby at_264) rfl ((if0 _ _).trans (teq (by decide : (0 : Int32) = (0 : Int32))).1) (by decide) (by decide) ?_
        show Steps p.tables e below (T219.setTop (mkF m 269 #[.val (.int p0), .val (.int p1), .val (.int p2), .val (.int p3), .val (.int p4), .val (.int p5), .val (.ref b101), .val (.int (0 : Int32)), .val (.int (1 : Int32)), .val v173, .val v178, .val (.ref l_103), .val (.int (2 : Int32)), .val (.int (1 : Int32)), .val (.ref l_196), .unset] [])) _
        refine XS.aload X219.here hx rfl (hb hby at_269) rfl rfl ?_
        refine XS.iload X219.here hx rfl (hb hby at_271) rfl ?_
        refine XS.aload X219.here hx rfl (hb hby at_273) rfl hv173 ?_
        show Steps p.tables e below (T219.setTop (mkF m 275 #[.val (.int p0), .val (.int p1), .val (.int p2), .val (.int p3), .val (.int p4), .val (.int p5), .val (.ref b101), .val (.int (0 : Int32)), .val (.int (1 : Int32)), .val v173, .val v178, .val (.ref l_103), .val (.int (2 : Int32)), .val (.int (1 : Int32)), .val (.ref l_196), .unset] [v173, (.int p4), (.ref b101)])) _
        refine st221.trans ?_
        show Steps p.tables e below (T221.setTop (mkF m 278 #[.val (.int p0), .val (.int p1), .val (.int p2), .val (.int p3), .val (.int p4), .val (.int p5), .val (.ref b101), .val (.int (0 : Int32)), .val (.int (1 : Int32)), .val v173, .val v178, .val (.ref l_103), .val (.int (2 : Int32)), .val (.int (1 : Int32)), .val (.ref l_196), .unset] [])) _
        refine XS.aload X221.here hx rfl (hb hby at_278) rfl rfl ?_
        show Steps p.tables e below (T221.setTop (mkF m 280 #[.val (.int p0), .val (.int p1), .val (.int p2), .val (.int p3), .val (.int p4), .val (.int p5), .val (.ref b101), .val (.int (0 : Int32)), .val (.int (1 : Int32)), .val v173, .val v178, .val (.ref l_103), .val (.int (2 : Int32)), .val (.int (1 : Int32)), .val (.ref l_196), .unset] [(.ref l_103)])) _
        refine st224.trans ?_
        show Steps p.tables e below (T224.setTop (mkF m 285 #[.val (.int p0), .val (.int p1), .val (.int p2), .val (.int p3), .val (.int p4), .val (.int p5), .val (.ref b101), .val (.int (0 : Int32)), .val (.int (1 : Int32)), .val v173, .val v178, .val (.ref l_103), .val (.int (2 : Int32)), .val (.int (1 : Int32)), .val (.ref l_196), .unset] [(.int (2 : Int32))])) _
        refine XS.iload X224.here hx rfl (hb hby at_285) rfl ?_
        refine XS.icmpYes X224.here hx rfl (pc0 := 287) (pc' := 292) rfl (hb hby at_287) rfl (teq (by decide : (2 : Int32) = (2 : Int32))).1 (by decide) (by decide) ?_
        show Steps p.tables e below (T224.setTop (mkF m 292 #[.val (.int p0), .val (.int p1), .val (.int p2), .val (.int p3), .val (.int p4), .val (.int p5), .val (.ref b101), .val (.int (0 : Int32)), .val (.int (1 : Int32)), .val v173, .val v178, .val (.ref l_103), .val (.int (2 : Int32)), .val (.int (1 : Int32)), .val (.ref l_196), .unset] [])) _
        refine XS.aload X224.here hx rfl (hb hby at_292) rfl rfl ?_
        show Steps p.tables e below (T224.setTop (mkF m 294 #[.val (.int p0), .val (.int p1), .val (.int p2), .val (.int p3), .val (.int p4), .val (.int p5), .val (.ref b101), .val (.int (0 : Int32)), .val (.int (1 : Int32)), .val v173, .val v178, .val (.ref l_103), .val (.int (2 : Int32)), .val (.int (1 : Int32)), .val (.ref l_196), .unset] [(.ref b101)])) _
        refine st228.trans ?_
        show Steps p.tables e below (T228.setTop (mkF m 297 #[.val (.int p0), .val (.int p1), .val (.int p2), .val (.int p3), .val (.int p4), .val (.int p5), .val (.ref b101), .val (.int (0 : Int32)), .val (.int (1 : Int32)), .val v173, .val v178, .val (.ref l_103), .val (.int (2 : Int32)), .val (.int (1 : Int32)), .val (.ref l_196), .unset] [(.ref l_216)])) _
        refine XS.astore X228.here hx rfl (hb hby at_297) rfl rfl (l' := #[.val (.int p0), .val (.int p1), .val (.int p2), .val (.int p3), .val (.int p4), .val (.int p5), .val (.ref b101), .val (.int (0 : Int32)), .val (.int (1 : Int32)), .val v173, .val v178, .val (.ref l_103), .val (.int (2 : Int32)), .val (.int (1 : Int32)), .val (.ref l_196), .val (.ref l_216)]) rfl ?_
        show Steps p.tables e below (T228.setTop (mkF m 299 #[.val (.int p0), .val (.int p1), .val (.int p2), .val (.int p3), .val (.int p4), .val (.int p5), .val (.ref b101), .val (.int (0 : Int32)), .val (.int (1 : Int32)), .val v173, .val v178, .val (.ref l_103), .val (.int (2 : Int32)), .val (.int (1 : Int32)), .val (.ref l_196), .val (.ref l_216)] [])) _
        refine XS.aload X228.here hx rfl (hb hby at_299) rfl rfl ?_
        show Steps p.tables e below (T228.setTop (mkF m 301 #[.val (.int p0), .val (.int p1), .val (.int p2), .val (.int p3), .val (.int p4), .val (.int p5), .val (.ref b101), .val (.int (0 : Int32)), .val (.int (1 : Int32)), .val v173, .val v178, .val (.ref l_103), .val (.int (2 : Int32)), .val (.int (1 : Int32)), .val (.ref l_196), .val (.ref l_216)] [(.ref l_216)])) _
        refine st231.trans ?_
        show Steps p.tables e below (T231.setTop (mkF m 306 #[.val (.int p0), .val (.int p1), .val (.int p2), .val (.int p3), .val (.int p4), .val (.int p5), .val (.ref b101), .val (.int (0 : Int32)), .val (.int (1 : Int32)), .val v173, .val v178, .val (.ref l_103), .val (.int (2 : Int32)), .val (.int (1 : Int32)), .val (.ref l_196), .val (.ref l_216)] [(.int (1 : Int32))])) _
        refine XS.iconst X231.here hx rfl (hb hby at_306) ?_
        refine XS.icmpNo X231.here hx rfl (hb hby at_307) rfl (teq (by decide : (1 : Int32) = (1 : Int32))).2 ?_
        show Steps p.tables e below (T231.setTop (mkF m 310 #[.val (.int p0), .val (.int p1), .val (.int p2), .val (.int p3), .val (.int p4), .val (.int p5), .val (.ref b101), .val (.int (0 : Int32)), .val (.int (1 : Int32)), .val v173, .val v178, .val (.ref l_103), .val (.int (2 : Int32)), .val (.int (1 : Int32)), .val (.ref l_196), .val (.ref l_216)] [])) _
        refine XS.aload X231.here hx rfl (hb hby at_310) rfl rfl ?_
        refine XS.iconst X231.here hx rfl (hb hby at_312) ?_
        show Steps p.tables e below (T231.setTop (mkF m 313 #[.val (.int p0), .val (.int p1), .val (.int p2), .val (.int p3), .val (.int p4), .val (.int p5), .val (.ref b101), .val (.int (0 : Int32)), .val (.int (1 : Int32)), .val v173, .val v178, .val (.ref l_103), .val (.int (2 : Int32)), .val (.int (1 : Int32)), .val (.ref l_196), .val (.ref l_216)] [(.int (0 : Int32)), (.ref l_216)])) _
        refine st235.trans ?_
        show Steps p.tables e below (T235.setTop (mkF m 318 #[.val (.int p0), .val (.int p1), .val (.int p2), .val (.int p3), .val (.int p4), .val (.int p5), .val (.ref b101), .val (.int (0 : Int32)), .val (.int (1 : Int32)), .val v173, .val v178, .val (.ref l_103), .val (.int (2 : Int32)), .val (.int (1 : Int32)), .val (.ref l_196), .val (.ref l_216)] [(.ref e_221)])) _
        refine st237 _ ?_
        show Steps p.tables e below (T237.setTop (mkF m 321 #[.val (.int p0), .val (.int p1), .val (.int p2), .val (.int p3), .val (.int p4), .val (.int p5), .val (.ref b101), .val (.int (0 : Int32)), .val (.int (1 : Int32)), .val v173, .val v178, .val (.ref l_103), .val (.int (2 : Int32)), .val (.int (1 : Int32)), .val (.ref l_196), .val (.ref l_216)] [(.ref e_221)])) _
        refine XS.iload X237.here hx rfl (hb hby at_321) rfl ?_
        refine XS.aload X237.here hx rfl (hb hby at_323) rfl hv173 ?_
        show Steps p.tables e below (T237.setTop (mkF m 325 #[.val (.int p0), .val (.int p1), .val (.int p2), .val (.int p3), .val (.int p4), .val (.int p5), .val (.ref b101), .val (.int (0 : Int32)), .val (.int (1 : Int32)), .val v173, .val v178, .val (.ref l_103), .val (.int (2 : Int32)), .val (.int (1 : Int32)), .val (.ref l_196), .val (.ref l_216)] [v173, (.int p4), (.ref e_221)])) _
        refine st241 _ ?_
        show Steps p.tables e below (T241.setTop (mkF m 328 #[.val (.int p0), .val (.int p1), .val (.int p2), .val (.int p3), .val (.int p4), .val (.int p5), .val (.ref b101), .val (.int (0 : Int32)), .val (.int (1 : Int32)), .val v173, .val v178, .val (.ref l_103), .val (.int (2 : Int32)), .val (.int (1 : Int32)), .val (.ref l_196), .val (.ref l_216)] [(.int (1 : Int32))])) _
        refine XS.ifNo X241.here hx rfl (hb hby at_328) rfl ((if0 _ _).trans (feq (by decide : ¬ ((1 : Int32) = (0 : Int32)))).1) ?_
        show Steps p.tables e below (T241.setTop (mkF m 331 #[.val (.int p0), .val (.int p1), .val (.int p2), .val (.int p3), .val (.int p4), .val (.int p5), .val (.ref b101), .val (.int (0 : Int32)), .val (.int (1 : Int32)), .val v173, .val v178, .val (.ref l_103), .val (.int (2 : Int32)), .val (.int (1 : Int32)), .val (.ref l_196), .val (.ref l_216)] [])) _
        refine XS.iconst X241.here hx rfl (hb hby at_331) ?_
        refine XS.goto X241.here hx rfl (pc0 := 332) (pc' := 336) rfl (hb hby at_332) (by decide) (by decide) ?_
        show Steps p.tables e below (T241.setTop (mkF m 336 #[.val (.int p0), .val (.int p1), .val (.int p2), .val (.int p3), .val (.int p4), .val (.int p5), .val (.ref b101), .val (.int (0 : Int32)), .val (.int (1 : Int32)), .val v173, .val v178, .val (.ref l_103), .val (.int (2 : Int32)), .val (.int (1 : Int32)), .val (.ref l_196), .val (.ref l_216)] [(.int (1 : Int32))])) _
        exact Jvm.RoadKit.retOut X241 hx Bd.returns rfl (Or.inl ⟨rfl, by simp, _, rfl⟩) (hb hby at_336) hr
      · show Q_rm0 Z p0 p1 p2 p3 p4 p5 w_Kind_EXIT w_Kind_ENTRY wd kd vd zc h0 n0 _ T241.heap _
        rw [e241]
        unfold Q_rm0
        exact ⟨rfl, N241, K250⟩
  · have S252 : ∀ t, Steps p.tables e below (T103.setTop (mkF m 30 #[.val (.int p0), .val (.int p1), .val (.int p2), .val (.int p3), .val (.int p4), .val (.int p5), .val (.ref b101), .val (.int (1 : Int32)), .unset, .unset, .unset, .unset, .unset, .unset, .unset, .unset] [(.int (p5 &&& (2 : Int32)))])) t → Steps p.tables e below (s₁.setTop (entryFrame m #[(.int p0), (.int p1), (.int p2), (.int p3), (.int p4), (.int p5)] maxLocals)) t := fun t k => by
      refine S105 t ?_
      show Steps p.tables e below (T103.setTop (mkF m 16 #[.val (.int p0), .val (.int p1), .val (.int p2), .val (.int p3), .val (.int p4), .val (.int p5), .val (.ref b101), .unset, .unset, .unset, .unset, .unset, .unset, .unset, .unset, .unset] [(.int (p5 &&& (1 : Int32)))])) _
      refine XS.ifNo X103b.here hx rfl (hb hby at_16) rfl ((if0 _ _).trans (feq hc104).1) ?_
      show Steps p.tables e below (T103.setTop (mkF m 19 #[.val (.int p0), .val (.int p1), .val (.int p2), .val (.int p3), .val (.int p4), .val (.int p5), .val (.ref b101), .unset, .unset, .unset, .unset, .unset, .unset, .unset, .unset, .unset] [])) _
      refine XS.iconst X103b.here hx rfl (hb hby at_19) ?_
      refine XS.goto X103b.here hx rfl (pc0 := 20) (pc' := 24) rfl (hb hby at_20) (by decide) (by decide) ?_
      show Steps p.tables e below (T103.setTop (mkF m 24 #[.val (.int p0), .val (.int p1), .val (.int p2), .val (.int p3), .val (.int p4), .val (.int p5), .val (.ref b101), .unset, .unset, .unset, .unset, .unset, .unset, .unset, .unset, .unset] [(.int (1 : Int32))])) _
      refine XS.istore X103b.here hx rfl (hb hby at_24) rfl (l' := #[.val (.int p0), .val (.int p1), .val (.int p2), .val (.int p3), .val (.int p4), .val (.int p5), .val (.ref b101), .val (.int (1 : Int32)), .unset, .unset, .unset, .unset, .unset, .unset, .unset, .unset]) rfl ?_
      show Steps p.tables e below (T103.setTop (mkF m 26 #[.val (.int p0), .val (.int p1), .val (.int p2), .val (.int p3), .val (.int p4), .val (.int p5), .val (.ref b101), .val (.int (1 : Int32)), .unset, .unset, .unset, .unset, .unset, .unset, .unset, .unset] [])) _
      refine XS.iload X103b.here hx rfl (hb hby at_26) rfl ?_
      refine XS.iconst X103b.here hx rfl (hb hby at_28) ?_
      refine XS.iand X103b.here hx rfl (hb hby at_29) rfl ?_
      exact k
    by_cases hc251 : (p5 &&& (2 : Int32)) = (0 : Int32)
    · have S253 : ∀ t, Steps p.tables e below (T103.setTop (mkF m 44 #[.val (.int p0), .val (.int p1), .val (.int p2), .val (.int p3), .val (.int p4), .val (.int p5), .val (.ref b101), .val (.int (1 : Int32)), .val (.int (0 : Int32)), .unset, .unset, .unset, .unset, .unset, .unset, .unset] [(.int (p5 &&& (4 : Int32)))])) t → Steps p.tables e below (s₁.setTop (entryFrame m #[(.int p0), (.int p1), (.int p2), (.int p3), (.int p4), (.int p5)] maxLocals)) t := fun t k => by
        refine S252 t ?_
        show Steps p.tables e below (T103.setTop (mkF m 30 #[.val (.int p0), .val (.int p1), .val (.int p2), .val (.int p3), .val (.int p4), .val (.int p5), .val (.ref b101), .val (.int (1 : Int32)), .unset, .unset, .unset, .unset, .unset, .unset, .unset, .unset] [(.int (p5 &&& (2 : Int32)))])) _
        refine XS.ifYes X103b.here hx rfl (pc0 := 30) (pc' := 37) rfl (hb hby at_30) rfl ((if0 _ _).trans (teq hc251).1) (by decide) (by decide) ?_
        show Steps p.tables e below (T103.setTop (mkF m 37 #[.val (.int p0), .val (.int p1), .val (.int p2), .val (.int p3), .val (.int p4), .val (.int p5), .val (.ref b101), .val (.int (1 : Int32)), .unset, .unset, .unset, .unset, .unset, .unset, .unset, .unset] [])) _
        refine XS.iconst X103b.here hx rfl (hb hby at_37) ?_
        refine XS.istore X103b.here hx rfl (hb hby at_38) rfl (l' := #[.val (.int p0), .val (.int p1), .val (.int p2), .val (.int p3), .val (.int p4), .val (.int p5), .val (.ref b101), .val (.int (1 : Int32)), .val (.int (0 : Int32)), .unset, .unset, .unset, .unset, .unset, .unset, .unset]) rfl ?_
        show Steps p.tables e below (T103.setTop (mkF m 40 #[.val (.int p0), .val (.int p1), .val (.int p2), .val (.int p3), .val (.int p4), .val (.int p5), .val (.ref b101), .val (.int (1 : Int32)), .val (.int (0 : Int32)), .unset, .unset, .unset, .unset, .unset, .unset, .unset] [])) _
        refine XS.iload X103b.here hx rfl (hb hby at_40) rfl ?_
        refine XS.iconst X103b.here hx rfl (hb hby at_42) ?_
        refine XS.iand X103b.here hx rfl (hb hby at_43) rfl ?_
        exact k
      obtain ⟨T255, h255, vm255, k255, v255, Lj255, X255, Nj255, e255, K255, hS255, hk255, hZ255, hown255, hv255, Mj255, S255⟩ : ∃ (T' : State) (h' : Heap) (vm' : Vm) (k' : Nat) (v255 : Value) (L' : List Loc), JoinStand X103b (s.setVm vm') T' L' 2 5 ∧ Fr n0 L' ∧ T'.heap = h' ∧ Keep T103.heap h' [] ∧ s.Since vm' k' ∧ k' ≤ h'.size ∧ Z.Warmed39 (s.setVm vm').vm ∧ (s.setVm vm').vm.findClass "com/example/fixlore/fixlore/lang/GraphBuilderSuspendPinLaw" = some m.cls ∧ v255.isRef = true ∧ OptExa Z h' v255 "java/lang/String" ∧ ∀ t, Steps p.tables e below (T'.setTop (mkF m 64 #[.val (.int p0), .val (.int p1), .val (.int p2), .val (.int p3), .val (.int p4), .val (.int p5), .val (.ref b101), .val (.int (1 : Int32)), .val (.int (0 : Int32)), .unset, .unset, .unset, .unset, .unset, .unset, .unset] [v255])) t → Steps p.tables e below (s₁.setTop (entryFrame m #[(.int p0), (.int p1), (.int p2), (.int p3), (.int p4), (.int p5)] maxLocals)) t := by
        by_cases hc254 : (p5 &&& (4 : Int32)) = (0 : Int32)
        · refine ⟨T103, _, _, _, .null, [], own_jn (X103b.more (by decide) (by decide)), Fr.nil n0, rfl, (Keep.refl _ []), hS103, (Nat.le_refl _), hZ103, hown103, rfl, own_mnull, fun t k => ?_⟩
          refine S253 t ?_
          show Steps p.tables e below (T103.setTop (mkF m 44 #[.val (.int p0), .val (.int p1), .val (.int p2), .val (.int p3), .val (.int p4), .val (.int p5), .val (.ref b101), .val (.int (1 : Int32)), .val (.int (0 : Int32)), .unset, .unset, .unset, .unset, .unset, .unset, .unset] [(.int (p5 &&& (4 : Int32)))])) _
          refine XS.ifYes X103b.here hx rfl (pc0 := 44) (pc' := 63) rfl (hb hby at_44) rfl ((if0 _ _).trans (teq hc254).1) (by decide) (by decide) ?_
          show Steps p.tables e below (T103.setTop (mkF m 63 #[.val (.int p0), .val (.int p1), .val (.int p2), .val (.int p3), .val (.int p4), .val (.int p5), .val (.ref b101), .val (.int (1 : Int32)), .val (.int (0 : Int32)), .unset, .unset, .unset, .unset, .unset, .unset, .unset] [])) _
          refine XS.aconstNull X103b.here hx rfl (hb hby at_63) ?_
          exact k
        · have O256 : Old Z n0 T103.heap := Old.keep O102 K103 (allS g_b101 all0)
          obtain ⟨_, _, ⟨T257, L257, k257, n257⟩, -, X257, ⟨Lc257, hQ257, l257, y257, z257⟩, st257⟩ := Jvm.LawKit.callS X103b hx (y := (⟨"java/lang/String", "valueOf", "(C)Ljava/lang/String;"⟩ : MethodName)) hown103 (mvT hZ103 (hwk hw 266 rfl)) (mvT hZ103 (hwk hw 267 rfl)) (mvT hZ103 (hwk hw 102 rfl)) (mvT hZ103 (hwk hw 268 rfl)) (by decide) (backOf (W := 0) (rm32 l Z a0 hw [] ((((p5.toUInt32 >>> ((8 : Int32) &&& 31).toUInt32).toInt32) &&& (255 : Int32)).toUInt32.toUInt16.toUInt32.toInt32) zc T103.heap n0 O256 SZ PZ (own_chm _)) hZ103 (hwk hw 268 rfl) (hwk hw 102 rfl) (by decide) (by decide)) (g := (mkF m 57 #[.val (.int p0), .val (.int p1), .val (.int p2), .val (.int p3), .val (.int p4), .val (.int p5), .val (.ref b101), .val (.int (1 : Int32)), .val (.int (0 : Int32)), .unset, .unset, .unset, .unset, .unset, .unset, .unset] [(.int ((((p5.toUInt32 >>> ((8 : Int32) &&& 31).toUInt32).toInt32) &&& (255 : Int32)).toUInt32.toUInt16.toUInt32.toInt32))])) rfl (by rw [hml]; rfl) (argsL := [(.int ((((p5.toUInt32 >>> ((8 : Int32) &&& 31).toUInt32).toInt32) &&& (255 : Int32)).toUInt32.toUInt16.toUInt32.toInt32))]) (rest := []) (lenOf pd_18 rfl) rfl (by show 2 * 0 + _ ≤ _; exact Nat.le_of_eq rfl) (hb hby at_57) (fun _ _ => ⟨rfl, (rfl : T103.heap = T103.heap), (by decide : 25 + 2 ≤ _), (by decide : 174 + 5 ≤ _)⟩)
          dsimp only [Pt.U, Pt.locs, Pt.cells, Pt.slots] at X257 l257 y257 z257 st257 hQ257
          subst l257 y257 z257
          unfold Q_rm32 at hQ257
          obtain ⟨b_257, t_257, k_257, rfl, N257q, K257, ge_b_257, ge_t_257, f257_0, f257_1, f257_2, f257_3, f257_4⟩ := hQ257
          have N257 := Fr.app N103 N257q
          have g_b_257 : n0 ≤ b_257 := Nat.le_trans (old_le O256) ge_b_257
          have g_t_257 : n0 ≤ t_257 := Nat.le_trans (old_le O256) ge_t_257
          refine ⟨T257, _, _, _, (.ref b_257), Lc257, X257.more (by decide) (by decide), N257q, rfl, (Keep.trans (Keep.refl _ []) K257 all0), hS103, (Nat.le_trans (Nat.le_refl _) (Nat.le_trans (Nat.le_refl _) K257.1)), hZ103, hown103, rfl, (own_mref f257_0), fun t k => ?_⟩
          refine S253 t ?_
          show Steps p.tables e below (T103.setTop (mkF m 44 #[.val (.int p0), .val (.int p1), .val (.int p2), .val (.int p3), .val (.int p4), .val (.int p5), .val (.ref b101), .val (.int (1 : Int32)), .val (.int (0 : Int32)), .unset, .unset, .unset, .unset, .unset, .unset, .unset] [(.int (p5 &&& (4 : Int32)))])) _
          refine XS.ifNo X103b.here hx rfl (hb hby at_44) rfl ((if0 _ _).trans (feq hc254).1) ?_
          show Steps p.tables e below (T103.setTop (mkF m 47 #[.val (.int p0), .val (.int p1), .val (.int p2), .val (.int p3), .val (.int p4), .val (.int p5), .val (.ref b101), .val (.int (1 : Int32)), .val (.int (0 : Int32)), .unset, .unset, .unset, .unset, .unset, .unset, .unset] [])) _
          refine XS.iload X103b.here hx rfl (hb hby at_47) rfl ?_
          refine XS.bipush X103b.here hx rfl (hb hby at_49) ?_
          refine XS.iushr X103b.here hx rfl (hb hby at_51) rfl ?_
          show Steps p.tables e below (T103.setTop (mkF m 52 #[.val (.int p0), .val (.int p1), .val (.int p2), .val (.int p3), .val (.int p4), .val (.int p5), .val (.ref b101), .val (.int (1 : Int32)), .val (.int (0 : Int32)), .unset, .unset, .unset, .unset, .unset, .unset, .unset] [(.int ((p5.toUInt32 >>> ((8 : Int32) &&& 31).toUInt32).toInt32))])) _
          refine XS.sipush X103b.here hx rfl (hb hby at_52) ?_
          refine XS.iand X103b.here hx rfl (hb hby at_55) rfl ?_
          show Steps p.tables e below (T103.setTop (mkF m 56 #[.val (.int p0), .val (.int p1), .val (.int p2), .val (.int p3), .val (.int p4), .val (.int p5), .val (.ref b101), .val (.int (1 : Int32)), .val (.int (0 : Int32)), .unset, .unset, .unset, .unset, .unset, .unset, .unset] [(.int (((p5.toUInt32 >>> ((8 : Int32) &&& 31).toUInt32).toInt32) &&& (255 : Int32)))])) _
          refine XS.i2c X103b.here hx rfl (hb hby at_56) rfl ?_
          show Steps p.tables e below (T103.setTop (mkF m 57 #[.val (.int p0), .val (.int p1), .val (.int p2), .val (.int p3), .val (.int p4), .val (.int p5), .val (.ref b101), .val (.int (1 : Int32)), .val (.int (0 : Int32)), .unset, .unset, .unset, .unset, .unset, .unset, .unset] [(.int ((((p5.toUInt32 >>> ((8 : Int32) &&& 31).toUInt32).toInt32) &&& (255 : Int32)).toUInt32.toUInt16.toUInt32.toInt32))])) _
          refine st257 _ ?_
          show Steps p.tables e below (T257.setTop (mkF m 60 #[.val (.int p0), .val (.int p1), .val (.int p2), .val (.int p3), .val (.int p4), .val (.int p5), .val (.ref b101), .val (.int (1 : Int32)), .val (.int (0 : Int32)), .unset, .unset, .unset, .unset, .unset, .unset, .unset] [(.ref b_257)])) _
          refine XS.goto X257.here hx rfl (pc0 := 60) (pc' := 64) rfl (hb hby at_60) (by decide) (by decide) ?_
          exact k
      unfold JoinStand at X255
      have N255 := Fr.app N103 Nj255
      have S258 : ∀ t, Steps p.tables e below (T255.setTop (mkF m 71 #[.val (.int p0), .val (.int p1), .val (.int p2), .val (.int p3), .val (.int p4), .val (.int p5), .val (.ref b101), .val (.int (1 : Int32)), .val (.int (0 : Int32)), .val v255, .unset, .unset, .unset, .unset, .unset, .unset] [(.int (p5 &&& (8 : Int32)))])) t → Steps p.tables e below (s₁.setTop (entryFrame m #[(.int p0), (.int p1), (.int p2), (.int p3), (.int p4), (.int p5)] maxLocals)) t := fun t k => by
        refine S255 t ?_
        show Steps p.tables e below (T255.setTop (mkF m 64 #[.val (.int p0), .val (.int p1), .val (.int p2), .val (.int p3), .val (.int p4), .val (.int p5), .val (.ref b101), .val (.int (1 : Int32)), .val (.int (0 : Int32)), .unset, .unset, .unset, .unset, .unset, .unset, .unset] [v255])) _
        refine XS.astore X255.here hx rfl (hb hby at_64) rfl hv255 (l' := #[.val (.int p0), .val (.int p1), .val (.int p2), .val (.int p3), .val (.int p4), .val (.int p5), .val (.ref b101), .val (.int (1 : Int32)), .val (.int (0 : Int32)), .val v255, .unset, .unset, .unset, .unset, .unset, .unset]) (XS.store1 (o := .unset) rfl (Or.inl rfl) (XT.cat1 hv255)) ?_
        show Steps p.tables e below (T255.setTop (mkF m 66 #[.val (.int p0), .val (.int p1), .val (.int p2), .val (.int p3), .val (.int p4), .val (.int p5), .val (.ref b101), .val (.int (1 : Int32)), .val (.int (0 : Int32)), .val v255, .unset, .unset, .unset, .unset, .unset, .unset] [])) _
        refine XS.iload X255.here hx rfl (hb hby at_66) rfl ?_
        refine XS.bipush X255.here hx rfl (hb hby at_68) ?_
        refine XS.iand X255.here hx rfl (hb hby at_70) rfl ?_
        exact k
      obtain ⟨T260, h260, vm260, k260, v260, Lj260, X260, Nj260, e260, K260, hS260, hk260, hZ260, hown260, hv260, Mj260, S260⟩ : ∃ (T' : State) (h' : Heap) (vm' : Vm) (k' : Nat) (v260 : Value) (L' : List Loc), JoinStand X255 (s.setVm vm') T' L' 2 5 ∧ Fr n0 L' ∧ T'.heap = h' ∧ Keep h255 h' [] ∧ s.Since vm' k' ∧ k' ≤ h'.size ∧ Z.Warmed39 (s.setVm vm').vm ∧ (s.setVm vm').vm.findClass "com/example/fixlore/fixlore/lang/GraphBuilderSuspendPinLaw" = some m.cls ∧ v260.isRef = true ∧ OptExa Z h' v260 "java/lang/String" ∧ ∀ t, Steps p.tables e below (T'.setTop (mkF m 91 #[.val (.int p0), .val (.int p1), .val (.int p2), .val (.int p3), .val (.int p4), .val (.int p5), .val (.ref b101), .val (.int (1 : Int32)), .val (.int (0 : Int32)), .val v255, .unset, .unset, .unset, .unset, .unset, .unset] [v260])) t → Steps p.tables e below (s₁.setTop (entryFrame m #[(.int p0), (.int p1), (.int p2), (.int p3), (.int p4), (.int p5)] maxLocals)) t := by
        by_cases hc259 : (p5 &&& (8 : Int32)) = (0 : Int32)
        · refine ⟨T255, _, _, _, .null, [], own_jn (X255.more (by decide) (by decide)), Fr.nil n0, e255, (Keep.refl _ []), hS255, hk255, hZ255, hown255, rfl, own_mnull, fun t k => ?_⟩
          refine S258 t ?_
          show Steps p.tables e below (T255.setTop (mkF m 71 #[.val (.int p0), .val (.int p1), .val (.int p2), .val (.int p3), .val (.int p4), .val (.int p5), .val (.ref b101), .val (.int (1 : Int32)), .val (.int (0 : Int32)), .val v255, .unset, .unset, .unset, .unset, .unset, .unset] [(.int (p5 &&& (8 : Int32)))])) _
          refine XS.ifYes X255.here hx rfl (pc0 := 71) (pc' := 90) rfl (hb hby at_71) rfl ((if0 _ _).trans (teq hc259).1) (by decide) (by decide) ?_
          show Steps p.tables e below (T255.setTop (mkF m 90 #[.val (.int p0), .val (.int p1), .val (.int p2), .val (.int p3), .val (.int p4), .val (.int p5), .val (.ref b101), .val (.int (1 : Int32)), .val (.int (0 : Int32)), .val v255, .unset, .unset, .unset, .unset, .unset, .unset] [])) _
          refine XS.aconstNull X255.here hx rfl (hb hby at_90) ?_
          exact k
        · have O261 : Old Z n0 T103.heap := Old.keep O102 K103 (allS g_b101 all0)
          have O262 : Old Z n0 h255 := Old.keep O261 K255 all0
          obtain ⟨_, _, ⟨T263, L263, k263, n263⟩, -, X263, ⟨Lc263, hQ263, l263, y263, z263⟩, st263⟩ := Jvm.LawKit.callS X255 hx (y := (⟨"java/lang/String", "valueOf", "(C)Ljava/lang/String;"⟩ : MethodName)) hown255 (mvT hZ255 (hwk hw 266 rfl)) (mvT hZ255 (hwk hw 267 rfl)) (mvT hZ255 (hwk hw 102 rfl)) (mvT hZ255 (hwk hw 268 rfl)) (by decide) (backOf (W := 0) (rm32 l Z a0 hw [] ((((p5.toUInt32 >>> ((16 : Int32) &&& 31).toUInt32).toInt32) &&& (255 : Int32)).toUInt32.toUInt16.toUInt32.toInt32) zc h255 n0 O262 SZ PZ (own_chm _)) hZ255 (hwk hw 268 rfl) (hwk hw 102 rfl) (by decide) (by decide)) (g := (mkF m 84 #[.val (.int p0), .val (.int p1), .val (.int p2), .val (.int p3), .val (.int p4), .val (.int p5), .val (.ref b101), .val (.int (1 : Int32)), .val (.int (0 : Int32)), .val v255, .unset, .unset, .unset, .unset, .unset, .unset] [(.int ((((p5.toUInt32 >>> ((16 : Int32) &&& 31).toUInt32).toInt32) &&& (255 : Int32)).toUInt32.toUInt16.toUInt32.toInt32))])) rfl (by rw [hml]; rfl) (argsL := [(.int ((((p5.toUInt32 >>> ((16 : Int32) &&& 31).toUInt32).toInt32) &&& (255 : Int32)).toUInt32.toUInt16.toUInt32.toInt32))]) (rest := []) (lenOf pd_18 rfl) rfl (by show 2 * 0 + _ ≤ _; exact Nat.le_of_eq rfl) (hb hby at_84) (fun _ _ => ⟨rfl, e255, (by decide : 27 + 2 ≤ _), (by decide : 179 + 5 ≤ _)⟩)
          dsimp only [Pt.U, Pt.locs, Pt.cells, Pt.slots] at X263 l263 y263 z263 st263 hQ263
          subst l263 y263 z263
          unfold Q_rm32 at hQ263
          obtain ⟨b_263, t_263, k_263, rfl, N263q, K263, ge_b_263, ge_t_263, f263_0, f263_1, f263_2, f263_3, f263_4⟩ := hQ263
          have N263 := Fr.app N255 N263q
          have g_b_263 : n0 ≤ b_263 := Nat.le_trans (old_le O262) ge_b_263
          have g_t_263 : n0 ≤ t_263 := Nat.le_trans (old_le O262) ge_t_263
          refine ⟨T263, _, _, _, (.ref b_263), Lc263, X263.more (by decide) (by decide), N263q, rfl, (Keep.trans (Keep.refl _ []) K263 all0), hS255, (Nat.le_trans hk255 (Nat.le_trans (Nat.le_refl _) K263.1)), hZ255, hown255, rfl, (own_mref f263_0), fun t k => ?_⟩
          refine S258 t ?_
          show Steps p.tables e below (T255.setTop (mkF m 71 #[.val (.int p0), .val (.int p1), .val (.int p2), .val (.int p3), .val (.int p4), .val (.int p5), .val (.ref b101), .val (.int (1 : Int32)), .val (.int (0 : Int32)), .val v255, .unset, .unset, .unset, .unset, .unset, .unset] [(.int (p5 &&& (8 : Int32)))])) _
          refine XS.ifNo X255.here hx rfl (hb hby at_71) rfl ((if0 _ _).trans (feq hc259).1) ?_
          show Steps p.tables e below (T255.setTop (mkF m 74 #[.val (.int p0), .val (.int p1), .val (.int p2), .val (.int p3), .val (.int p4), .val (.int p5), .val (.ref b101), .val (.int (1 : Int32)), .val (.int (0 : Int32)), .val v255, .unset, .unset, .unset, .unset, .unset, .unset] [])) _
          refine XS.iload X255.here hx rfl (hb hby at_74) rfl ?_
          refine XS.bipush X255.here hx rfl (hb hby at_76) ?_
          refine XS.iushr X255.here hx rfl (hb hby at_78) rfl ?_
          show Steps p.tables e below (T255.setTop (mkF m 79 #[.val (.int p0), .val (.int p1), .val (.int p2), .val (.int p3), .val (.int p4), .val (.int p5), .val (.ref b101), .val (.int (1 : Int32)), .val (.int (0 : Int32)), .val v255, .unset, .unset, .unset, .unset, .unset, .unset] [(.int ((p5.toUInt32 >>> ((16 : Int32) &&& 31).toUInt32).toInt32))])) _
          refine XS.sipush X255.here hx rfl (hb hby at_79) ?_
          refine XS.iand X255.here hx rfl (hb hby at_82) rfl ?_
          show Steps p.tables e below (T255.setTop (mkF m 83 #[.val (.int p0), .val (.int p1), .val (.int p2), .val (.int p3), .val (.int p4), .val (.int p5), .val (.ref b101), .val (.int (1 : Int32)), .val (.int (0 : Int32)), .val v255, .unset, .unset, .unset, .unset, .unset, .unset] [(.int (((p5.toUInt32 >>> ((16 : Int32) &&& 31).toUInt32).toInt32) &&& (255 : Int32)))])) _
          refine XS.i2c X255.here hx rfl (hb hby at_83) rfl ?_
          show Steps p.tables e below (T255.setTop (mkF m 84 #[.val (.int p0), .val (.int p1), .val (.int p2), .val (.int p3), .val (.int p4), .val (.int p5), .val (.ref b101), .val (.int (1 : Int32)), .val (.int (0 : Int32)), .val v255, .unset, .unset, .unset, .unset, .unset, .unset] [(.int ((((p5.toUInt32 >>> ((16 : Int32) &&& 31).toUInt32).toInt32) &&& (255 : Int32)).toUInt32.toUInt16.toUInt32.toInt32))])) _
          refine st263 _ ?_
          show Steps p.tables e below (T263.setTop (mkF m 87 #[.val (.int p0), .val (.int p1), .val (.int p2), .val (.int p3), .val (.int p4), .val (.int p5), .val (.ref b101), .val (.int (1 : Int32)), .val (.int (0 : Int32)), .val v255, .unset, .unset, .unset, .unset, .unset, .unset] [(.ref b_263)])) _
          refine XS.goto X263.here hx rfl (pc0 := 87) (pc' := 91) rfl (hb hby at_87) (by decide) (by decide) ?_
          exact k
      unfold JoinStand at X260
      have N260 := Fr.app N255 Nj260
      have c264 : Fld Z h260 b101 "com/example/fixlore/fixlore/lang/GraphBuilder" "pending" "Ljava/util/List;" (.ref l_103) := (Fld.keep (Fld.keep f103_1 K255 nin0) K260 nin0)
      have c265 : Exa Z h260 l_103 "java/util/ArrayList" := (Exa.keep (Exa.keep f103_2 K255) K260)
      have c266 : Fld Z h260 l_103 "java/util/ArrayList" "elementData" "[Ljava/lang/Object;" (.ref t_103) := (Fld.keep (Fld.keep f103_3 K255 nin0) K260 nin0)
      have c267 : Fld Z h260 l_103 "java/util/ArrayList" "size" "I" (.int (1 : Int32)) := (Fld.keep (Fld.keep f103_4 K255 nin0) K260 nin0)
      have c268 : Fld Z h260 l_103 "java/util/AbstractList" "modCount" "I" (.int ((0 : Int32) + (1 : Int32))) := (Fld.keep (Fld.keep f103_5 K255 nin0) K260 nin0)
      have c269 : Arv Z h260 t_103 k_103 (.object "java/lang/Object") (10 : Int32) [(.ref e_103), .null, .null, .null, .null, .null, .null, .null, .null, .null] .null := (Arv.keep (Arv.keep f103_6 K255 nin0) K260 nin0)
      have O270 : Old Z n0 T103.heap := Old.keep O102 K103 (allS g_b101 all0)
      have O271 : Old Z n0 h255 := Old.keep O270 K255 all0
      have O272 : Old Z n0 h260 := Old.keep O271 K260 all0
      have c274 : Exa Z h260 b101 "com/example/fixlore/fixlore/lang/GraphBuilder" := (Exa.keep (Exa.keep f103_0 K255) K260)
      obtain ⟨cq273, kq273, q273a, q273b, q273c⟩ := isOf hZ260 e260 c274
      obtain ⟨_, _, ⟨T273, L273, k273, n273⟩, -, X273, ⟨Lc273, hQ273, l273, y273, z273⟩, st273⟩ := X260.virtualBack hx (y := (⟨"com/example/fixlore/fixlore/lang/GraphBuilder", "join", "(ILjava/lang/String;)V"⟩ : MethodName)) (z := (⟨"com/example/fixlore/fixlore/lang/GraphBuilder", "join", "(ILjava/lang/String;)V"⟩ : MethodName)) hown260 (mvT hZ260 (hwk hw 222 rfl)) (mvT hZ260 (hwk hw 201 rfl)) (notFace_of_selects (args := #[]) (mvT hZ260 (hwk hw 203 rfl))) (mvT hZ260 (hwk hw 203 rfl)) (mvT hZ260 (hwk hw 202 rfl)) (by decide) (backOf (W := 0) (rm21_1 l Z a0 hw [] b101 p3 v255 l_103 e_103 ((0 : Int32) + (1 : Int32)) wd kd vd t_103 k_103 h260 n0 O272 c264 c265 c266 c267 c268 c269 f103_7 g_l_103 (ne_exa f103_0 f103_2 (by decide)) SD VD hv255 g_t_103 f103_11 (Exa.neArv f103_0 f103_6 (hwk hw 1 rfl))) hZ260 (hwk hw 204 rfl) (hwk hw 2 rfl) (by decide) (by decide)) q273a q273c (g := (mkF m 103 #[.val (.int p0), .val (.int p1), .val (.int p2), .val (.int p3), .val (.int p4), .val (.int p5), .val (.ref b101), .val (.int (1 : Int32)), .val (.int (0 : Int32)), .val v255, .val v260, .unset, .unset, .unset, .unset, .unset] [v255, (.int p3), (.ref b101)])) rfl (by rw [hml]; rfl) (Steps.refl _) (argsL := [(.int p3), v255]) (rest := []) (lenOf pd_9 rfl) rfl (by show 2 * 0 + _ ≤ _; exact Nat.le_of_eq rfl) (hb hby at_103) (fun _ _ => ⟨rfl, e260, (by decide : 29 + 1 ≤ _), (by decide : 184 + 2 ≤ _)⟩)
      dsimp only [Pt.U, Pt.locs, Pt.cells, Pt.slots] at X273 l273 y273 z273 st273 hQ273
      subst l273 y273 z273
      unfold Q_rm21_1 at hQ273
      obtain ⟨e_273, rfl, N273q, K273, ge_e_273, f273_0, f273_1, f273_2, f273_3, f273_4, f273_5, f273_6, f273_7, f273_8⟩ := hQ273
      have N273 := Fr.app N260 N273q
      have g_e_273 : n0 ≤ e_273 := Nat.le_trans (old_le O272) ge_e_273
      have c275 : Exa Z T273.heap b101 "com/example/fixlore/fixlore/lang/GraphBuilder" := (Exa.keep c274 K273)
      have c276 : Fld Z T273.heap b101 "com/example/fixlore/fixlore/lang/GraphBuilder" "pending" "Ljava/util/List;" (.ref l_103) := (Fld.keep c264 K273 (ninS (ne_exa f103_0 f103_2 (by decide)) (ninS (Exa.neArv c275 f273_4 (hwk hw 1 rfl)) nin0)))
      have O277 : Old Z n0 T273.heap := Old.keep O272 K273 (allS g_l_103 (allS g_t_103 all0))
      obtain ⟨cq278, kq278, q278a, q278b, q278c⟩ := isOf hZ260 (rfl : T273.heap = T273.heap) c275
      obtain ⟨_, _, ⟨T278, L278, k278, n278⟩, -, X278, ⟨Lc278, hQ278, l278, y278, z278⟩, st278⟩ := X273.virtualBack hx (y := (⟨"com/example/fixlore/fixlore/lang/GraphBuilder", "suspend", "()Ljava/util/List;"⟩ : MethodName)) (z := (⟨"com/example/fixlore/fixlore/lang/GraphBuilder", "suspend", "()Ljava/util/List;"⟩ : MethodName)) hown260 (mvT hZ260 (hwk hw 223 rfl)) (mvT hZ260 (hwk hw 224 rfl)) (notFace_of_selects (args := #[]) (mvT hZ260 (hwk hw 226 rfl))) (mvT hZ260 (hwk hw 226 rfl)) (mvT hZ260 (hwk hw 225 rfl)) (by decide) (backOf (W := 0) (rm24 l Z a0 hw [] b101 l_103 wd T273.heap n0 O277 c275 g_b101 c276 SD) hZ260 (hwk hw 227 rfl) (hwk hw 2 rfl) (by decide) (by decide)) q278a q278c (g := (mkF m 122 #[.val (.int p0), .val (.int p1), .val (.int p2), .val (.int p3), .val (.int p4), .val (.int p5), .val (.ref b101), .val (.int (1 : Int32)), .val (.int (0 : Int32)), .val v255, .val v260, .unset, .unset, .unset, .unset, .unset] [(.ref b101)])) rfl (by rw [hml]; rfl) (Steps.refl _) (argsL := []) (rest := []) (lenOf pd_19 rfl) rfl (by show 2 * 0 + _ ≤ _; exact Nat.le_of_eq rfl) (hb hby at_122) (fun _ _ => ⟨rfl, (rfl : T273.heap = T273.heap), (by decide : 30 + 1 ≤ _), (by decide : 186 + 3 ≤ _)⟩)
      dsimp only [Pt.U, Pt.locs, Pt.cells, Pt.slots] at X278 l278 y278 z278 st278 hQ278
      subst l278 y278 z278
      unfold Q_rm24 at hQ278
      obtain ⟨l_278, rfl, N278q, K278, ge_l_278, f278_0, f278_1, f278_2, f278_3, f278_4, f278_5⟩ := hQ278
      have N278 := Fr.app N273 N278q
      have g_l_278 : n0 ≤ l_278 := Nat.le_trans (old_le O277) ge_l_278
      have c279 : Fld Z T278.heap l_103 "java/util/ArrayList" "size" "I" (.int (2 : Int32)) := (Fld.keep f273_2 K278 (ninS (ne_exa f103_2 f103_0 (by decide)) nin0))
      have O280 : Old Z n0 T278.heap := Old.keep O277 K278 (allS g_b101 all0)
      have c282 : Exa Z T278.heap l_103 "java/util/ArrayList" := (Exa.keep f273_0 K278)
      obtain ⟨cq281, kq281, q281a, q281b, q281c⟩ := isOf hZ260 (rfl : T278.heap = T278.heap) c282
      obtain ⟨_, _, ⟨T281, L281, k281, n281⟩, -, X281, ⟨Lc281, hQ281, l281, y281, z281⟩, st281⟩ := X278.interfaceBack hx (xi := (⟨"java/util/List", "size", "()I"⟩ : MethodName)) (y := (⟨"java/util/ArrayList", "size", "()I"⟩ : MethodName)) hown260 (mvT hZ260 (hwk hw 228 rfl)) (mvT hZ260 (hwk hw 183 rfl)) (mvT hZ260 (hwk hw 184 rfl)) (mvT hZ260 (hwk hw 185 rfl)) (mvT hZ260 (hwk hw 186 rfl)) (mvT hZ260 (hwk hw 187 rfl)) (mvT hZ260 (hwk hw 188 rfl)) (mvT hZ260 (hwk hw 155 rfl)) (by decide) (backOf (W := 0) (rm19 l Z a0 hw [] l_103 (2 : Int32) T278.heap n0 O280 c279) hZ260 (hwk hw 189 rfl) (hwk hw 11 rfl) (by decide) (by decide)) q281a q281b q281c (g := (mkF m 154 #[.val (.int p0), .val (.int p1), .val (.int p2), .val (.int p3), .val (.int p4), .val (.int p5), .val (.ref b101), .val (.int (1 : Int32)), .val (.int (0 : Int32)), .val v255, .val v260, .val (.ref l_103), .val (.int (2 : Int32)), .unset, .unset, .unset] [(.ref l_103)])) rfl (by rw [hml]; rfl) (Steps.refl _) (argsL := []) (rest := []) (lenOf pd_8 rfl) rfl (by show 2 * 0 + _ ≤ _; exact Nat.le_of_eq rfl) (hb hby at_154) (fun _ _ => ⟨rfl, (rfl : T278.heap = T278.heap), (by decide : 31 + 0 ≤ _), (by decide : 189 + 0 ≤ _)⟩)
      dsimp only [Pt.U, Pt.locs, Pt.cells, Pt.slots] at X281 l281 y281 z281 st281 hQ281
      subst l281 y281 z281
      unfold Q_rm19 at hQ281
      obtain ⟨rfl, N281q, e281⟩ := hQ281
      have N281 := Fr.app N278 N281q
      have c283 : Fld Z T278.heap l_103 "java/util/ArrayList" "elementData" "[Ljava/lang/Object;" (.ref t_103) := (Fld.keep f273_1 K278 (ninS (ne_exa f103_2 f103_0 (by decide)) nin0))
      have c284 : Arv Z T278.heap t_103 k_103 (.object "java/lang/Object") (10 : Int32) [(.ref e_103), (.ref e_273), .null, .null, .null, .null, .null, .null, .null, .null] .null := (Arv.keep f273_4 K278 (ninS (Ne.symm (Exa.neArv c275 f273_4 (hwk hw 1 rfl))) nin0))
      obtain ⟨cq285, kq285, q285a, q285b, q285c⟩ := isOf hZ260 e281 c282
      obtain ⟨_, _, ⟨T285, L285, k285, n285⟩, -, X285, ⟨Lc285, hQ285, l285, y285, z285⟩, st285⟩ := X281.interfaceBack hx (xi := (⟨"java/util/List", "get", "(I)Ljava/lang/Object;"⟩ : MethodName)) (y := (⟨"java/util/ArrayList", "get", "(I)Ljava/lang/Object;"⟩ : MethodName)) hown260 (mvT hZ260 (hwk hw 229 rfl)) (mvT hZ260 (hwk hw 230 rfl)) (mvT hZ260 (hwk hw 231 rfl)) (mvT hZ260 (hwk hw 232 rfl)) (mvT hZ260 (hwk hw 233 rfl)) (mvT hZ260 (hwk hw 234 rfl)) (mvT hZ260 (hwk hw 235 rfl)) (mvT hZ260 (hwk hw 155 rfl)) (by decide) (backOf (W := 0) (rm25 l Z a0 hw [] l_103 (0 : Int32) (2 : Int32) t_103 k_103 ([(.ref e_103), (.ref e_273), .null, .null, .null, .null, .null, .null, .null, .null]) e_103 T278.heap n0 O280 c282 c279 c283 c284 rfl (by decide) (by decide) (by decide)) hZ260 (hwk hw 236 rfl) (hwk hw 11 rfl) (by decide) (by decide)) q285a q285b q285c (g := (mkF m 169 #[.val (.int p0), .val (.int p1), .val (.int p2), .val (.int p3), .val (.int p4), .val (.int p5), .val (.ref b101), .val (.int (1 : Int32)), .val (.int (0 : Int32)), .val v255, .val v260, .val (.ref l_103), .val (.int (2 : Int32)), .unset, .unset, .unset] [(.int (0 : Int32)), (.ref l_103)])) rfl (by rw [hml]; rfl) (Steps.refl _) (argsL := [(.int (0 : Int32))]) (rest := []) (lenOf pd_11 rfl) rfl (by show 2 * 0 + _ ≤ _; exact Nat.le_of_eq rfl) (hb hby at_169) (fun _ _ => ⟨rfl, e281, (by decide : 31 + 0 ≤ _), (by decide : 189 + 0 ≤ _)⟩)
      dsimp only [Pt.U, Pt.locs, Pt.cells, Pt.slots] at X285 l285 y285 z285 st285 hQ285
      subst l285 y285 z285
      unfold Q_rm25 at hQ285
      obtain ⟨rfl, N285q, e285⟩ := hQ285
      have N285 := Fr.app N281 N285q
      have c286 : Exa Z T278.heap e_103 "com/example/fixlore/fixlore/lang/GraphBuilder$End" := (Exa.keep (Exa.keep (Exa.keep (Exa.keep f103_8 K255) K260) K273) K278)
      obtain ⟨T287, X287, e287, st287⟩ := castY X285 hx hZ260 hown260 (hwk hw 250 rfl) e285 (Ins.self c286) (g := (mkF m 174 #[.val (.int p0), .val (.int p1), .val (.int p2), .val (.int p3), .val (.int p4), .val (.int p5), .val (.ref b101), .val (.int (1 : Int32)), .val (.int (0 : Int32)), .val v255, .val v260, .val (.ref l_103), .val (.int (2 : Int32)), .unset, .unset, .unset] [(.ref e_103)])) rfl rfl (hb hby at_174)
      have c288 : Fld Z T278.heap e_103 "com/example/fixlore/fixlore/lang/GraphBuilder$End" "from" "I" (.int (0 : Int32)) := (Fld.keep (Fld.keep (Fld.keep (Fld.keep f103_9 K255 nin0) K260 nin0) K273 (ninS (ne_exa f103_8 f103_2 (by decide)) (ninS (Exa.neArv c286 c284 (hwk hw 206 rfl)) nin0))) K278 (ninS (ne_exa f103_8 f103_0 (by decide)) nin0))
      have c289 : Fld Z T278.heap e_103 "com/example/fixlore/fixlore/lang/GraphBuilder$End" "branch" "Ljava/lang/String;" .null := (Fld.keep (Fld.keep (Fld.keep (Fld.keep f103_10 K255 nin0) K260 nin0) K273 (ninS (ne_exa f103_8 f103_2 (by decide)) (ninS (Exa.neArv c286 c284 (hwk hw 206 rfl)) nin0))) K278 (ninS (ne_exa f103_8 f103_0 (by decide)) nin0))
      obtain ⟨_, _, ⟨T290, L290, k290, n290⟩, -, X290, ⟨Lc290, hQ290, l290, y290, z290⟩, st290⟩ := Jvm.LawKit.callS X287 hx (y := (⟨"com/example/fixlore/fixlore/lang/GraphBuilderSuspendPinLaw", "endIs", "(Lcom/example/fixlore/fixlore/lang/GraphBuilder$End;ILjava/lang/String;)Z"⟩ : MethodName)) hown260 (mvT hZ260 (hwk hw 252 rfl)) (mvT hZ260 (hwk hw 253 rfl)) (mvT hZ260 (hwk hw 254 rfl)) (mvT hZ260 (hwk hw 255 rfl)) (by decide) (backOf (W := 0) (rm29nb l Z a0 hw [] e_103 (0 : Int32) T278.heap n0 O280 c286 c288 c289) hZ260 (hwk hw 255 rfl) (hwk hw 254 rfl) (by decide) (by decide)) (g := (mkF m 179 #[.val (.int p0), .val (.int p1), .val (.int p2), .val (.int p3), .val (.int p4), .val (.int p5), .val (.ref b101), .val (.int (1 : Int32)), .val (.int (0 : Int32)), .val v255, .val v260, .val (.ref l_103), .val (.int (2 : Int32)), .unset, .unset, .unset] [.null, (.int (0 : Int32)), (.ref e_103)])) rfl (by rw [hml]; rfl) (argsL := [(.ref e_103), (.int (0 : Int32)), .null]) (rest := []) (lenOf pd_20 rfl) rfl (by show 2 * 0 + _ ≤ _; exact Nat.le_of_eq rfl) (hb hby at_179) (fun _ _ => ⟨rfl, e287, (by decide : 31 + 0 ≤ _), (by decide : 189 + 0 ≤ _)⟩)
      dsimp only [Pt.U, Pt.locs, Pt.cells, Pt.slots] at X290 l290 y290 z290 st290 hQ290
      subst l290 y290 z290
      unfold Q_rm29nb at hQ290
      obtain ⟨rfl, N290q, e290⟩ := hQ290
      have N290 := Fr.app N285 N290q
      obtain ⟨cq291, kq291, q291a, q291b, q291c⟩ := isOf hZ260 e290 c282
      obtain ⟨_, _, ⟨T291, L291, k291, n291⟩, -, X291, ⟨Lc291, hQ291, l291, y291, z291⟩, st291⟩ := X290.interfaceBack hx (xi := (⟨"java/util/List", "get", "(I)Ljava/lang/Object;"⟩ : MethodName)) (y := (⟨"java/util/ArrayList", "get", "(I)Ljava/lang/Object;"⟩ : MethodName)) hown260 (mvT hZ260 (hwk hw 229 rfl)) (mvT hZ260 (hwk hw 230 rfl)) (mvT hZ260 (hwk hw 231 rfl)) (mvT hZ260 (hwk hw 232 rfl)) (mvT hZ260 (hwk hw 233 rfl)) (mvT hZ260 (hwk hw 234 rfl)) (mvT hZ260 (hwk hw 235 rfl)) (mvT hZ260 (hwk hw 155 rfl)) (by decide) (backOf (W := 0) (rm25 l Z a0 hw [] l_103 (1 : Int32) (2 : Int32) t_103 k_103 ([(.ref e_103), (.ref e_273), .null, .null, .null, .null, .null, .null, .null, .null]) e_273 T278.heap n0 O280 c282 c279 c283 c284 rfl (by decide) (by decide) (by decide)) hZ260 (hwk hw 236 rfl) (hwk hw 11 rfl) (by decide) (by decide)) q291a q291b q291c (g := (mkF m 199 #[.val (.int p0), .val (.int p1), .val (.int p2), .val (.int p3), .val (.int p4), .val (.int p5), .val (.ref b101), .val (.int (1 : Int32)), .val (.int (0 : Int32)), .val v255, .val v260, .val (.ref l_103), .val (.int (2 : Int32)), .val (.int (1 : Int32)), .unset, .unset] [(.int (1 : Int32)), (.ref l_103)])) rfl (by rw [hml]; rfl) (Steps.refl _) (argsL := [(.int (1 : Int32))]) (rest := []) (lenOf pd_11 rfl) rfl (by show 2 * 0 + _ ≤ _; exact Nat.le_of_eq rfl) (hb hby at_199) (fun _ _ => ⟨rfl, e290, (by decide : 31 + 0 ≤ _), (by decide : 189 + 0 ≤ _)⟩)
      dsimp only [Pt.U, Pt.locs, Pt.cells, Pt.slots] at X291 l291 y291 z291 st291 hQ291
      subst l291 y291 z291
      unfold Q_rm25 at hQ291
      obtain ⟨rfl, N291q, e291⟩ := hQ291
      have N291 := Fr.app N290 N291q
      have c292 : Exa Z T278.heap e_273 "com/example/fixlore/fixlore/lang/GraphBuilder$End" := (Exa.keep f273_6 K278)
      obtain ⟨T293, X293, e293, st293⟩ := castY X291 hx hZ260 hown260 (hwk hw 250 rfl) e291 (Ins.self c292) (g := (mkF m 204 #[.val (.int p0), .val (.int p1), .val (.int p2), .val (.int p3), .val (.int p4), .val (.int p5), .val (.ref b101), .val (.int (1 : Int32)), .val (.int (0 : Int32)), .val v255, .val v260, .val (.ref l_103), .val (.int (2 : Int32)), .val (.int (1 : Int32)), .unset, .unset] [(.ref e_273)])) rfl rfl (hb hby at_204)
      have c294 : Fld Z T278.heap e_273 "com/example/fixlore/fixlore/lang/GraphBuilder$End" "from" "I" (.int p3) := (Fld.keep f273_7 K278 (ninS (ne_exa f273_6 c275 (by decide)) nin0))
      have c295 : Fld Z T278.heap e_273 "com/example/fixlore/fixlore/lang/GraphBuilder$End" "branch" "Ljava/lang/String;" v255 := (Fld.keep f273_8 K278 (ninS (ne_exa f273_6 c275 (by decide)) nin0))
      have c296 : OptExa Z T278.heap v255 "java/lang/String" := (own_mkeep K278 (own_mkeep K273 (own_mkeep K260 Mj255)))
      obtain ⟨_, _, ⟨T297, L297, k297, n297⟩, -, X297, ⟨Lc297, hQ297, l297, y297, z297⟩, st297⟩ := Jvm.LawKit.callS X293 hx (y := (⟨"com/example/fixlore/fixlore/lang/GraphBuilderSuspendPinLaw", "endIs", "(Lcom/example/fixlore/fixlore/lang/GraphBuilder$End;ILjava/lang/String;)Z"⟩ : MethodName)) hown260 (mvT hZ260 (hwk hw 252 rfl)) (mvT hZ260 (hwk hw 253 rfl)) (mvT hZ260 (hwk hw 254 rfl)) (mvT hZ260 (hwk hw 255 rfl)) (by decide) (backOf (W := 0) (rm29 l Z a0 hw [] e_273 p3 v255 T278.heap n0 O280 c292 c294 c295 hv255 c296) hZ260 (hwk hw 255 rfl) (hwk hw 254 rfl) (by decide) (by decide)) (g := (mkF m 210 #[.val (.int p0), .val (.int p1), .val (.int p2), .val (.int p3), .val (.int p4), .val (.int p5), .val (.ref b101), .val (.int (1 : Int32)), .val (.int (0 : Int32)), .val v255, .val v260, .val (.ref l_103), .val (.int (2 : Int32)), .val (.int (1 : Int32)), .unset, .unset] [v255, (.int p3), (.ref e_273)])) rfl (by rw [hml]; rfl) (argsL := [(.ref e_273), (.int p3), v255]) (rest := []) (lenOf pd_20 rfl) rfl (by show 2 * 0 + _ ≤ _; exact Nat.le_of_eq rfl) (hb hby at_210) (fun _ _ => ⟨rfl, e293, (by decide : 31 + 0 ≤ _), (by decide : 189 + 0 ≤ _)⟩)
      dsimp only [Pt.U, Pt.locs, Pt.cells, Pt.slots] at X297 l297 y297 z297 st297 hQ297
      subst l297 y297 z297
      unfold Q_rm29 at hQ297
      obtain ⟨rfl, N297q, e297⟩ := hQ297
      have N297 := Fr.app N291 N297q
      obtain ⟨cq298, kq298, q298a, q298b, q298c⟩ := isOf hZ260 e297 f278_0
      obtain ⟨_, _, ⟨T298, L298, k298, n298⟩, -, X298, ⟨Lc298, hQ298, l298, y298, z298⟩, st298⟩ := X297.virtualBack hx (y := (⟨"com/example/fixlore/fixlore/lang/GraphBuilder", "suspend", "()Ljava/util/List;"⟩ : MethodName)) (z := (⟨"com/example/fixlore/fixlore/lang/GraphBuilder", "suspend", "()Ljava/util/List;"⟩ : MethodName)) hown260 (mvT hZ260 (hwk hw 223 rfl)) (mvT hZ260 (hwk hw 224 rfl)) (notFace_of_selects (args := #[]) (mvT hZ260 (hwk hw 226 rfl))) (mvT hZ260 (hwk hw 226 rfl)) (mvT hZ260 (hwk hw 225 rfl)) (by decide) (backOf (W := 0) (rm24 l Z a0 hw [] b101 l_278 wd T278.heap n0 O280 f278_0 g_b101 f278_1 SD) hZ260 (hwk hw 227 rfl) (hwk hw 2 rfl) (by decide) (by decide)) q298a q298c (g := (mkF m 252 #[.val (.int p0), .val (.int p1), .val (.int p2), .val (.int p3), .val (.int p4), .val (.int p5), .val (.ref b101), .val (.int (1 : Int32)), .val (.int (0 : Int32)), .val v255, .val v260, .val (.ref l_103), .val (.int (2 : Int32)), .val (.int (2 : Int32)), .unset, .unset] [(.ref b101)])) rfl (by rw [hml]; rfl) (Steps.refl _) (argsL := []) (rest := []) (lenOf pd_19 rfl) rfl (by show 2 * 0 + _ ≤ _; exact Nat.le_of_eq rfl) (hb hby at_252) (fun _ _ => ⟨rfl, e297, (by decide : 31 + 1 ≤ _), (by decide : 189 + 3 ≤ _)⟩)
      dsimp only [Pt.U, Pt.locs, Pt.cells, Pt.slots] at X298 l298 y298 z298 st298 hQ298
      subst l298 y298 z298
      unfold Q_rm24 at hQ298
      obtain ⟨l_298, rfl, N298q, K298, ge_l_298, f298_0, f298_1, f298_2, f298_3, f298_4, f298_5⟩ := hQ298
      have N298 := Fr.app N297 N298q
      have g_l_298 : n0 ≤ l_298 := Nat.le_trans (old_le O280) ge_l_298
      have c299 : Fld Z T298.heap l_278 "java/util/ArrayList" "size" "I" (.int (0 : Int32)) := (Fld.keep f278_4 K298 (ninS (ne_exa f278_2 f278_0 (by decide)) nin0))
      have O300 : Old Z n0 T298.heap := Old.keep O280 K298 (allS g_b101 all0)
      have c302 : Exa Z T298.heap l_278 "java/util/ArrayList" := (Exa.keep f278_2 K298)
      obtain ⟨cq301, kq301, q301a, q301b, q301c⟩ := isOf hZ260 (rfl : T298.heap = T298.heap) c302
      obtain ⟨_, _, ⟨T301, L301, k301, n301⟩, -, X301, ⟨Lc301, hQ301, l301, y301, z301⟩, st301⟩ := X298.interfaceBack hx (xi := (⟨"java/util/List", "size", "()I"⟩ : MethodName)) (y := (⟨"java/util/ArrayList", "size", "()I"⟩ : MethodName)) hown260 (mvT hZ260 (hwk hw 228 rfl)) (mvT hZ260 (hwk hw 183 rfl)) (mvT hZ260 (hwk hw 184 rfl)) (mvT hZ260 (hwk hw 185 rfl)) (mvT hZ260 (hwk hw 186 rfl)) (mvT hZ260 (hwk hw 187 rfl)) (mvT hZ260 (hwk hw 188 rfl)) (mvT hZ260 (hwk hw 155 rfl)) (by decide) (backOf (W := 0) (rm19 l Z a0 hw [] l_278 (0 : Int32) T298.heap n0 O300 c299) hZ260 (hwk hw 189 rfl) (hwk hw 11 rfl) (by decide) (by decide)) q301a q301b q301c (g := (mkF m 259 #[.val (.int p0), .val (.int p1), .val (.int p2), .val (.int p3), .val (.int p4), .val (.int p5), .val (.ref b101), .val (.int (1 : Int32)), .val (.int (0 : Int32)), .val v255, .val v260, .val (.ref l_103), .val (.int (2 : Int32)), .val (.int (2 : Int32)), .val (.ref l_278), .unset] [(.ref l_278)])) rfl (by rw [hml]; rfl) (Steps.refl _) (argsL := []) (rest := []) (lenOf pd_8 rfl) rfl (by show 2 * 0 + _ ≤ _; exact Nat.le_of_eq rfl) (hb hby at_259) (fun _ _ => ⟨rfl, (rfl : T298.heap = T298.heap), (by decide : 32 + 0 ≤ _), (by decide : 192 + 0 ≤ _)⟩)
      dsimp only [Pt.U, Pt.locs, Pt.cells, Pt.slots] at X301 l301 y301 z301 st301 hQ301
      subst l301 y301 z301
      unfold Q_rm19 at hQ301
      obtain ⟨rfl, N301q, e301⟩ := hQ301
      have N301 := Fr.app N298 N301q
      obtain ⟨cq303, kq303, q303a, q303b, q303c⟩ := isOf hZ260 e301 f298_0
      obtain ⟨_, _, ⟨T303, L303, k303, n303⟩, -, X303, ⟨Lc303, hQ303, l303, y303, z303⟩, st303⟩ := X301.virtualBack hx (y := (⟨"com/example/fixlore/fixlore/lang/GraphBuilder", "join", "(ILjava/lang/String;)V"⟩ : MethodName)) (z := (⟨"com/example/fixlore/fixlore/lang/GraphBuilder", "join", "(ILjava/lang/String;)V"⟩ : MethodName)) hown260 (mvT hZ260 (hwk hw 222 rfl)) (mvT hZ260 (hwk hw 201 rfl)) (notFace_of_selects (args := #[]) (mvT hZ260 (hwk hw 203 rfl))) (mvT hZ260 (hwk hw 203 rfl)) (mvT hZ260 (hwk hw 202 rfl)) (by decide) (backOf (W := 0) (rm21_0 l Z a0 hw [] b101 p4 v255 l_298 (0 : Int32) wd kd vd T298.heap n0 O300 f298_1 f298_2 f298_3 f298_4 f298_5 g_l_298 (ne_exa f298_0 f298_2 (by decide)) SD VD hv255) hZ260 (hwk hw 204 rfl) (hwk hw 2 rfl) (by decide) (by decide)) q303a q303c (g := (mkF m 275 #[.val (.int p0), .val (.int p1), .val (.int p2), .val (.int p3), .val (.int p4), .val (.int p5), .val (.ref b101), .val (.int (1 : Int32)), .val (.int (0 : Int32)), .val v255, .val v260, .val (.ref l_103), .val (.int (2 : Int32)), .val (.int (2 : Int32)), .val (.ref l_278), .unset] [v255, (.int p4), (.ref b101)])) rfl (by rw [hml]; rfl) (Steps.refl _) (argsL := [(.int p4), v255]) (rest := []) (lenOf pd_9 rfl) rfl (by show 2 * 0 + _ ≤ _; exact Nat.le_of_eq rfl) (hb hby at_275) (fun _ _ => ⟨rfl, e301, (by decide : 32 + 2 ≤ _), (by decide : 192 + 12 ≤ _)⟩)
      dsimp only [Pt.U, Pt.locs, Pt.cells, Pt.slots] at X303 l303 y303 z303 st303 hQ303
      subst l303 y303 z303
      unfold Q_rm21_0 at hQ303
      obtain ⟨e_303, t_303, k_303, rfl, N303q, K303, ge_e_303, ge_t_303, f303_0, f303_1, f303_2, f303_3, f303_4, f303_5, f303_6, f303_7, f303_8, f303_9⟩ := hQ303
      have N303 := Fr.app N301 N303q
      have g_e_303 : n0 ≤ e_303 := Nat.le_trans (old_le O300) ge_e_303
      have g_t_303 : n0 ≤ t_303 := Nat.le_trans (old_le O300) ge_t_303
      have c304 : Fld Z T303.heap l_103 "java/util/ArrayList" "size" "I" (.int (2 : Int32)) := (Fld.keep (Fld.keep c279 K298 (ninS (ne_exa f103_2 f103_0 (by decide)) nin0)) K303 (ninS (Nat.ne_of_lt (Nat.lt_of_lt_of_le (c282).lt ge_l_298)) nin0))
      have O305 : Old Z n0 T303.heap := Old.keep O300 K303 (allS g_l_298 all0)
      have c307 : Exa Z T303.heap l_103 "java/util/ArrayList" := (Exa.keep (Exa.keep c282 K298) K303)
      obtain ⟨cq306, kq306, q306a, q306b, q306c⟩ := isOf hZ260 (rfl : T303.heap = T303.heap) c307
      obtain ⟨_, _, ⟨T306, L306, k306, n306⟩, -, X306, ⟨Lc306, hQ306, l306, y306, z306⟩, st306⟩ := X303.interfaceBack hx (xi := (⟨"java/util/List", "size", "()I"⟩ : MethodName)) (y := (⟨"java/util/ArrayList", "size", "()I"⟩ : MethodName)) hown260 (mvT hZ260 (hwk hw 228 rfl)) (mvT hZ260 (hwk hw 183 rfl)) (mvT hZ260 (hwk hw 184 rfl)) (mvT hZ260 (hwk hw 185 rfl)) (mvT hZ260 (hwk hw 186 rfl)) (mvT hZ260 (hwk hw 187 rfl)) (mvT hZ260 (hwk hw 188 rfl)) (mvT hZ260 (hwk hw 155 rfl)) (by decide) (backOf (W := 0) (rm19 l Z a0 hw [] l_103 (2 : Int32) T303.heap n0 O305 c304) hZ260 (hwk hw 189 rfl) (hwk hw 11 rfl) (by decide) (by decide)) q306a q306b q306c (g := (mkF m 280 #[.val (.int p0), .val (.int p1), .val (.int p2), .val (.int p3), .val (.int p4), .val (.int p5), .val (.ref b101), .val (.int (1 : Int32)), .val (.int (0 : Int32)), .val v255, .val v260, .val (.ref l_103), .val (.int (2 : Int32)), .val (.int (2 : Int32)), .val (.ref l_278), .unset] [(.ref l_103)])) rfl (by rw [hml]; rfl) (Steps.refl _) (argsL := []) (rest := []) (lenOf pd_8 rfl) rfl (by show 2 * 0 + _ ≤ _; exact Nat.le_of_eq rfl) (hb hby at_280) (fun _ _ => ⟨rfl, (rfl : T303.heap = T303.heap), (by decide : 34 + 0 ≤ _), (by decide : 204 + 0 ≤ _)⟩)
      dsimp only [Pt.U, Pt.locs, Pt.cells, Pt.slots] at X306 l306 y306 z306 st306 hQ306
      subst l306 y306 z306
      unfold Q_rm19 at hQ306
      obtain ⟨rfl, N306q, e306⟩ := hQ306
      have N306 := Fr.app N303 N306q
      have c308 : Exa Z T303.heap b101 "com/example/fixlore/fixlore/lang/GraphBuilder" := (Exa.keep f298_0 K303)
      have c309 : Fld Z T303.heap b101 "com/example/fixlore/fixlore/lang/GraphBuilder" "pending" "Ljava/util/List;" (.ref l_298) := (Fld.keep f298_1 K303 (ninS (ne_exa f298_0 f298_2 (by decide)) nin0))
      obtain ⟨cq310, kq310, q310a, q310b, q310c⟩ := isOf hZ260 e306 c308
      obtain ⟨_, _, ⟨T310, L310, k310, n310⟩, -, X310, ⟨Lc310, hQ310, l310, y310, z310⟩, st310⟩ := X306.virtualBack hx (y := (⟨"com/example/fixlore/fixlore/lang/GraphBuilder", "suspend", "()Ljava/util/List;"⟩ : MethodName)) (z := (⟨"com/example/fixlore/fixlore/lang/GraphBuilder", "suspend", "()Ljava/util/List;"⟩ : MethodName)) hown260 (mvT hZ260 (hwk hw 223 rfl)) (mvT hZ260 (hwk hw 224 rfl)) (notFace_of_selects (args := #[]) (mvT hZ260 (hwk hw 226 rfl))) (mvT hZ260 (hwk hw 226 rfl)) (mvT hZ260 (hwk hw 225 rfl)) (by decide) (backOf (W := 0) (rm24 l Z a0 hw [] b101 l_298 wd T303.heap n0 O305 c308 g_b101 c309 SD) hZ260 (hwk hw 227 rfl) (hwk hw 2 rfl) (by decide) (by decide)) q310a q310c (g := (mkF m 294 #[.val (.int p0), .val (.int p1), .val (.int p2), .val (.int p3), .val (.int p4), .val (.int p5), .val (.ref b101), .val (.int (1 : Int32)), .val (.int (0 : Int32)), .val v255, .val v260, .val (.ref l_103), .val (.int (2 : Int32)), .val (.int (2 : Int32)), .val (.ref l_278), .unset] [(.ref b101)])) rfl (by rw [hml]; rfl) (Steps.refl _) (argsL := []) (rest := []) (lenOf pd_19 rfl) rfl (by show 2 * 0 + _ ≤ _; exact Nat.le_of_eq rfl) (hb hby at_294) (fun _ _ => ⟨rfl, e306, (by decide : 34 + 1 ≤ _), (by decide : 204 + 3 ≤ _)⟩)
      dsimp only [Pt.U, Pt.locs, Pt.cells, Pt.slots] at X310 l310 y310 z310 st310 hQ310
      subst l310 y310 z310
      unfold Q_rm24 at hQ310
      obtain ⟨l_310, rfl, N310q, K310, ge_l_310, f310_0, f310_1, f310_2, f310_3, f310_4, f310_5⟩ := hQ310
      have N310 := Fr.app N306 N310q
      have g_l_310 : n0 ≤ l_310 := Nat.le_trans (old_le O305) ge_l_310
      have c311 : Fld Z T310.heap l_298 "java/util/ArrayList" "size" "I" (.int (1 : Int32)) := (Fld.keep f303_2 K310 (ninS (ne_exa f298_2 f298_0 (by decide)) nin0))
      have O312 : Old Z n0 T310.heap := Old.keep O305 K310 (allS g_b101 all0)
      have c314 : Exa Z T310.heap l_298 "java/util/ArrayList" := (Exa.keep f303_0 K310)
      obtain ⟨cq313, kq313, q313a, q313b, q313c⟩ := isOf hZ260 (rfl : T310.heap = T310.heap) c314
      obtain ⟨_, _, ⟨T313, L313, k313, n313⟩, -, X313, ⟨Lc313, hQ313, l313, y313, z313⟩, st313⟩ := X310.interfaceBack hx (xi := (⟨"java/util/List", "size", "()I"⟩ : MethodName)) (y := (⟨"java/util/ArrayList", "size", "()I"⟩ : MethodName)) hown260 (mvT hZ260 (hwk hw 228 rfl)) (mvT hZ260 (hwk hw 183 rfl)) (mvT hZ260 (hwk hw 184 rfl)) (mvT hZ260 (hwk hw 185 rfl)) (mvT hZ260 (hwk hw 186 rfl)) (mvT hZ260 (hwk hw 187 rfl)) (mvT hZ260 (hwk hw 188 rfl)) (mvT hZ260 (hwk hw 155 rfl)) (by decide) (backOf (W := 0) (rm19 l Z a0 hw [] l_298 (1 : Int32) T310.heap n0 O312 c311) hZ260 (hwk hw 189 rfl) (hwk hw 11 rfl) (by decide) (by decide)) q313a q313b q313c (g := (mkF m 301 #[.val (.int p0), .val (.int p1), .val (.int p2), .val (.int p3), .val (.int p4), .val (.int p5), .val (.ref b101), .val (.int (1 : Int32)), .val (.int (0 : Int32)), .val v255, .val v260, .val (.ref l_103), .val (.int (2 : Int32)), .val (.int (2 : Int32)), .val (.ref l_278), .val (.ref l_298)] [(.ref l_298)])) rfl (by rw [hml]; rfl) (Steps.refl _) (argsL := []) (rest := []) (lenOf pd_8 rfl) rfl (by show 2 * 0 + _ ≤ _; exact Nat.le_of_eq rfl) (hb hby at_301) (fun _ _ => ⟨rfl, (rfl : T310.heap = T310.heap), (by decide : 35 + 0 ≤ _), (by decide : 207 + 0 ≤ _)⟩)
      dsimp only [Pt.U, Pt.locs, Pt.cells, Pt.slots] at X313 l313 y313 z313 st313 hQ313
      subst l313 y313 z313
      unfold Q_rm19 at hQ313
      obtain ⟨rfl, N313q, e313⟩ := hQ313
      have N313 := Fr.app N310 N313q
      have c315 : Fld Z T310.heap l_298 "java/util/ArrayList" "elementData" "[Ljava/lang/Object;" (.ref t_303) := (Fld.keep f303_1 K310 (ninS (ne_exa f298_2 f298_0 (by decide)) nin0))
      have c316 : Arv Z T310.heap t_303 k_303 (.object "java/lang/Object") (10 : Int32) [(.ref e_303), .null, .null, .null, .null, .null, .null, .null, .null, .null] .null := (Arv.keep f303_4 K310 (ninS (Ne.symm (Exa.neArv c308 f303_4 (hwk hw 1 rfl))) nin0))
      obtain ⟨cq317, kq317, q317a, q317b, q317c⟩ := isOf hZ260 e313 c314
      obtain ⟨_, _, ⟨T317, L317, k317, n317⟩, -, X317, ⟨Lc317, hQ317, l317, y317, z317⟩, st317⟩ := X313.interfaceBack hx (xi := (⟨"java/util/List", "get", "(I)Ljava/lang/Object;"⟩ : MethodName)) (y := (⟨"java/util/ArrayList", "get", "(I)Ljava/lang/Object;"⟩ : MethodName)) hown260 (mvT hZ260 (hwk hw 229 rfl)) (mvT hZ260 (hwk hw 230 rfl)) (mvT hZ260 (hwk hw 231 rfl)) (mvT hZ260 (hwk hw 232 rfl)) (mvT hZ260 (hwk hw 233 rfl)) (mvT hZ260 (hwk hw 234 rfl)) (mvT hZ260 (hwk hw 235 rfl)) (mvT hZ260 (hwk hw 155 rfl)) (by decide) (backOf (W := 0) (rm25 l Z a0 hw [] l_298 (0 : Int32) (1 : Int32) t_303 k_303 ([(.ref e_303), .null, .null, .null, .null, .null, .null, .null, .null, .null]) e_303 T310.heap n0 O312 c314 c311 c315 c316 rfl (by decide) (by decide) (by decide)) hZ260 (hwk hw 236 rfl) (hwk hw 11 rfl) (by decide) (by decide)) q317a q317b q317c (g := (mkF m 313 #[.val (.int p0), .val (.int p1), .val (.int p2), .val (.int p3), .val (.int p4), .val (.int p5), .val (.ref b101), .val (.int (1 : Int32)), .val (.int (0 : Int32)), .val v255, .val v260, .val (.ref l_103), .val (.int (2 : Int32)), .val (.int (2 : Int32)), .val (.ref l_278), .val (.ref l_298)] [(.int (0 : Int32)), (.ref l_298)])) rfl (by rw [hml]; rfl) (Steps.refl _) (argsL := [(.int (0 : Int32))]) (rest := []) (lenOf pd_11 rfl) rfl (by show 2 * 0 + _ ≤ _; exact Nat.le_of_eq rfl) (hb hby at_313) (fun _ _ => ⟨rfl, e313, (by decide : 35 + 0 ≤ _), (by decide : 207 + 0 ≤ _)⟩)
      dsimp only [Pt.U, Pt.locs, Pt.cells, Pt.slots] at X317 l317 y317 z317 st317 hQ317
      subst l317 y317 z317
      unfold Q_rm25 at hQ317
      obtain ⟨rfl, N317q, e317⟩ := hQ317
      have N317 := Fr.app N313 N317q
      have c318 : Exa Z T310.heap e_303 "com/example/fixlore/fixlore/lang/GraphBuilder$End" := (Exa.keep f303_6 K310)
      obtain ⟨T319, X319, e319, st319⟩ := castY X317 hx hZ260 hown260 (hwk hw 250 rfl) e317 (Ins.self c318) (g := (mkF m 318 #[.val (.int p0), .val (.int p1), .val (.int p2), .val (.int p3), .val (.int p4), .val (.int p5), .val (.ref b101), .val (.int (1 : Int32)), .val (.int (0 : Int32)), .val v255, .val v260, .val (.ref l_103), .val (.int (2 : Int32)), .val (.int (2 : Int32)), .val (.ref l_278), .val (.ref l_298)] [(.ref e_303)])) rfl rfl (hb hby at_318)
      have c320 : Fld Z T310.heap e_303 "com/example/fixlore/fixlore/lang/GraphBuilder$End" "from" "I" (.int p4) := (Fld.keep f303_7 K310 (ninS (ne_exa f303_6 c308 (by decide)) nin0))
      have c321 : Fld Z T310.heap e_303 "com/example/fixlore/fixlore/lang/GraphBuilder$End" "branch" "Ljava/lang/String;" v255 := (Fld.keep f303_8 K310 (ninS (ne_exa f303_6 c308 (by decide)) nin0))
      have c322 : OptExa Z T310.heap v255 "java/lang/String" := (own_mkeep K310 (own_mkeep K303 (own_mkeep K298 c296)))
      obtain ⟨_, _, ⟨T323, L323, k323, n323⟩, -, X323, ⟨Lc323, hQ323, l323, y323, z323⟩, st323⟩ := Jvm.LawKit.callS X319 hx (y := (⟨"com/example/fixlore/fixlore/lang/GraphBuilderSuspendPinLaw", "endIs", "(Lcom/example/fixlore/fixlore/lang/GraphBuilder$End;ILjava/lang/String;)Z"⟩ : MethodName)) hown260 (mvT hZ260 (hwk hw 252 rfl)) (mvT hZ260 (hwk hw 253 rfl)) (mvT hZ260 (hwk hw 254 rfl)) (mvT hZ260 (hwk hw 255 rfl)) (by decide) (backOf (W := 0) (rm29 l Z a0 hw [] e_303 p4 v255 T310.heap n0 O312 c318 c320 c321 hv255 c322) hZ260 (hwk hw 255 rfl) (hwk hw 254 rfl) (by decide) (by decide)) (g := (mkF m 325 #[.val (.int p0), .val (.int p1), .val (.int p2), .val (.int p3), .val (.int p4), .val (.int p5), .val (.ref b101), .val (.int (1 : Int32)), .val (.int (0 : Int32)), .val v255, .val v260, .val (.ref l_103), .val (.int (2 : Int32)), .val (.int (2 : Int32)), .val (.ref l_278), .val (.ref l_298)] [v255, (.int p4), (.ref e_303)])) rfl (by rw [hml]; rfl) (argsL := [(.ref e_303), (.int p4), v255]) (rest := []) (lenOf pd_20 rfl) rfl (by show 2 * 0 + _ ≤ _; exact Nat.le_of_eq rfl) (hb hby at_325) (fun _ _ => ⟨rfl, e319, (by decide : 35 + 0 ≤ _), (by decide : 207 + 0 ≤ _)⟩)
      dsimp only [Pt.U, Pt.locs, Pt.cells, Pt.slots] at X323 l323 y323 z323 st323 hQ323
      subst l323 y323 z323
      unfold Q_rm29 at hQ323
      obtain ⟨rfl, N323q, e323⟩ := hQ323
      have N323 := Fr.app N317 N323q
      have K324 : Keep h0 h101 [] := Keep.ext (Keep.refl h0 []) E101
      have K325 : Keep h0 T103.heap [] := Keep.trans K324 K103 (allS (Or.inr (Nat.le_trans (Nat.le_refl _) (Nat.le_of_eq g101.symm))) all0)
      have K326 : Keep h0 h255 [] := Keep.trans K325 K255 all0
      have K327 : Keep h0 h260 [] := Keep.trans K326 K260 all0
      have K328 : Keep h0 T273.heap [] := Keep.trans K327 K273 (allS (Or.inr (Nat.le_trans (Nat.le_trans (Nat.le_refl _) E101.1) ge_l_103)) (allS (Or.inr (Nat.le_trans (Nat.le_trans (Nat.le_refl _) E101.1) ge_t_103)) all0))
      have K329 : Keep h0 T278.heap [] := Keep.trans K328 K278 (allS (Or.inr (Nat.le_trans (Nat.le_refl _) (Nat.le_of_eq g101.symm))) all0)
      have K330 : Keep h0 T298.heap [] := Keep.trans K329 K298 (allS (Or.inr (Nat.le_trans (Nat.le_refl _) (Nat.le_of_eq g101.symm))) all0)
      have K331 : Keep h0 T303.heap [] := Keep.trans K330 K303 (allS (Or.inr (Nat.le_trans (Nat.le_trans (Nat.le_trans (Nat.le_trans (Nat.le_trans (Nat.le_trans (Nat.le_trans (Nat.le_refl _) E101.1) K103.1) K255.1) K260.1) K273.1) K278.1) ge_l_298)) all0)
      have K332 : Keep h0 T310.heap [] := Keep.trans K331 K310 (allS (Or.inr (Nat.le_trans (Nat.le_refl _) (Nat.le_of_eq g101.symm))) all0)
      obtain ⟨fs, hr, hrun, hended, hRE⟩ := X323.leaveW hS260 (show _ ≤ T323.heap.size from by rw [e323]; exact (Nat.le_trans hk260 (Nat.le_trans (Nat.le_trans (Nat.le_trans (Nat.le_trans (Nat.le_trans (Nat.le_refl _) K273.1) K278.1) K298.1) K303.1) K310.1))) (v := some (.int (1 : Int32))) (fun h => by rw [Bd.returns] at h; cases h)
      refine ⟨_, _, S260 _ ?_, hrun, hended, _, _, rfl, ?_, hRE.1, hRE.2.1, hRE.2.2.1, hRE.2.2.2.mono (by decide) (by decide)⟩
      · show Steps p.tables e below (T260.setTop (mkF m 91 #[.val (.int p0), .val (.int p1), .val (.int p2), .val (.int p3), .val (.int p4), .val (.int p5), .val (.ref b101), .val (.int (1 : Int32)), .val (.int (0 : Int32)), .val v255, .unset, .unset, .unset, .unset, .unset, .unset] [v260])) _
        refine XS.astore X260.here hx rfl (hb hby at_91) rfl hv260 (l' := #[.val (.int p0), .val (.int p1), .val (.int p2), .val (.int p3), .val (.int p4), .val (.int p5), .val (.ref b101), .val (.int (1 : Int32)), .val (.int (0 : Int32)), .val v255, .val v260, .unset, .unset, .unset, .unset, .unset]) (XS.store1 (o := .unset) rfl (Or.inl rfl) (XT.cat1 hv260)) ?_
        show Steps p.tables e below (T260.setTop (mkF m 93 #[.val (.int p0), .val (.int p1), .val (.int p2), .val (.int p3), .val (.int p4), .val (.int p5), .val (.ref b101), .val (.int (1 : Int32)), .val (.int (0 : Int32)), .val v255, .val v260, .unset, .unset, .unset, .unset, .unset] [])) _
        refine XS.iload X260.here hx rfl (hb hby at_93) rfl ?_
        refine XS.ifNo X260.here hx rfl (hb hby at_95) rfl ((if0 _ _).trans (feq (by decide : ¬ ((1 : Int32) = (0 : Int32)))).1) ?_
        show Steps p.tables e below (T260.setTop (mkF m 98 #[.val (.int p0), .val (.int p1), .val (.int p2), .val (.int p3), .val (.int p4), .val (.int p5), .val (.ref b101), .val (.int (1 : Int32)), .val (.int (0 : Int32)), .val v255, .val v260, .unset, .unset, .unset, .unset, .unset] [])) _
        refine XS.aload X260.here hx rfl (hb hby at_98) rfl rfl ?_
        refine XS.iloadN X260.here hx rfl (hb hby at_100) rfl ?_
        refine XS.aload X260.here hx rfl (hb hby at_101) rfl hv255 ?_
        show Steps p.tables e below (T260.setTop (mkF m 103 #[.val (.int p0), .val (.int p1), .val (.int p2), .val (.int p3), .val (.int p4), .val (.int p5), .val (.ref b101), .val (.int (1 : Int32)), .val (.int (0 : Int32)), .val v255, .val v260, .unset, .unset, .unset, .unset, .unset] [v255, (.int p3), (.ref b101)])) _
        refine st273.trans ?_
        show Steps p.tables e below (T273.setTop (mkF m 106 #[.val (.int p0), .val (.int p1), .val (.int p2), .val (.int p3), .val (.int p4), .val (.int p5), .val (.ref b101), .val (.int (1 : Int32)), .val (.int (0 : Int32)), .val v255, .val v260, .unset, .unset, .unset, .unset, .unset] [])) _
        refine XS.iload X273.here hx rfl (hb hby at_106) rfl ?_
        refine XS.ifYes X273.here hx rfl (pc0 := 108) (pc' := 120) rfl (hb hby at_108) rfl ((if0 _ _).trans (teq (by decide : (0 : Int32) = (0 : Int32))).1) (by decide) (by decide) ?_
        show Steps p.tables e below (T273.setTop (mkF m 120 #[.val (.int p0), .val (.int p1), .val (.int p2), .val (.int p3), .val (.int p4), .val (.int p5), .val (.ref b101), .val (.int (1 : Int32)), .val (.int (0 : Int32)), .val v255, .val v260, .unset, .unset, .unset, .unset, .unset] [])) _
        refine XS.aload X273.here hx rfl (hb hby at_120) rfl rfl ?_
        show Steps p.tables e below (T273.setTop (mkF m 122 #[.val (.int p0), .val (.int p1), .val (.int p2), .val (.int p3), .val (.int p4), .val (.int p5), .val (.ref b101), .val (.int (1 : Int32)), .val (.int (0 : Int32)), .val v255, .val v260, .unset, .unset, .unset, .unset, .unset] [(.ref b101)])) _
        refine st278.trans ?_
        show Steps p.tables e below (T278.setTop (mkF m 125 #[.val (.int p0), .val (.int p1), .val (.int p2), .val (.int p3), .val (.int p4), .val (.int p5), .val (.ref b101), .val (.int (1 : Int32)), .val (.int (0 : Int32)), .val v255, .val v260, .unset, .unset, .unset, .unset, .unset] [(.ref l_103)])) _
        refine XS.astore X278.here hx rfl (hb hby at_125) rfl rfl (l' := #[.val (.int p0), .val (.int p1), .val (.int p2), .val (.int p3), .val (.int p4), .val (.int p5), .val (.ref b101), .val (.int (1 : Int32)), .val (.int (0 : Int32)), .val v255, .val v260, .val (.ref l_103), .unset, .unset, .unset, .unset]) rfl ?_
        show Steps p.tables e below (T278.setTop (mkF m 127 #[.val (.int p0), .val (.int p1), .val (.int p2), .val (.int p3), .val (.int p4), .val (.int p5), .val (.ref b101), .val (.int (1 : Int32)), .val (.int (0 : Int32)), .val v255, .val v260, .val (.ref l_103), .unset, .unset, .unset, .unset] [])) _
        refine XS.iconst X278.here hx rfl (hb hby at_127) ?_
        refine XS.iload X278.here hx rfl (hb hby at_128) rfl ?_
        refine XS.ifNo X278.here hx rfl (hb hby at_130) rfl ((if0 _ _).trans (feq (by decide : ¬ ((1 : Int32) = (0 : Int32)))).1) ?_
        show Steps p.tables e below (T278.setTop (mkF m 133 #[.val (.int p0), .val (.int p1), .val (.int p2), .val (.int p3), .val (.int p4), .val (.int p5), .val (.ref b101), .val (.int (1 : Int32)), .val (.int (0 : Int32)), .val v255, .val v260, .val (.ref l_103), .unset, .unset, .unset, .unset] [(.int (1 : Int32))])) _
        refine XS.iconst X278.here hx rfl (hb hby at_133) ?_
        refine XS.goto X278.here hx rfl (pc0 := 134) (pc' := 138) rfl (hb hby at_134) (by decide) (by decide) ?_
        show Steps p.tables e below (T278.setTop (mkF m 138 #[.val (.int p0), .val (.int p1), .val (.int p2), .val (.int p3), .val (.int p4), .val (.int p5), .val (.ref b101), .val (.int (1 : Int32)), .val (.int (0 : Int32)), .val v255, .val v260, .val (.ref l_103), .unset, .unset, .unset, .unset] [(.int (1 : Int32)), (.int (1 : Int32))])) _
        refine XS.iadd X278.here hx rfl (hb hby at_138) rfl ?_
        show Steps p.tables e below (T278.setTop (mkF m 139 #[.val (.int p0), .val (.int p1), .val (.int p2), .val (.int p3), .val (.int p4), .val (.int p5), .val (.ref b101), .val (.int (1 : Int32)), .val (.int (0 : Int32)), .val v255, .val v260, .val (.ref l_103), .unset, .unset, .unset, .unset] [(.int ((1 : Int32) + (1 : Int32)))])) _
        rw [show ((1 : Int32) + (1 : Int32)) = (2 : Int32) from by decide]
        show Steps p.tables e below (T278.setTop (mkF m 139 #[.val (.int p0), .val (.int p1), .val (.int p2), .val (.int p3), .val (.int p4), .val (.int p5), .val (.ref b101), .val (.int (1 : Int32)), .val (.int (0 : Int32)), .val v255, .val v260, .val (.ref l_103), .unset, .unset, .unset, .unset] [(.int (2 : Int32))])) _
        refine XS.iload X278.here hx rfl (hb hby at_139) rfl ?_
        refine XS.ifYes X278.here hx rfl (pc0 := 141) (pc' := 148) rfl (hb hby at_141) rfl ((if0 _ _).trans (teq (by decide : (0 : Int32) = (0 : Int32))).1) (by decide) (by decide) ?_
        show Steps p.tables e below (T278.setTop (mkF m 148 #[.val (.int p0), .val (.int p1), .val (.int p2), .val (.int p3), .val (.int p4), .val (.int p5), .val (.ref b101), .val (.int (1 : Int32)), .val (.int (0 : Int32)), .val v255, .val v260, .val (.ref l_103), .unset, .unset, .unset, .unset] [(.int (2 : Int32))])) _
        refine XS.iconst X278.here hx rfl (hb hby at_148) ?_
        refine XS.iadd X278.here hx rfl (hb hby at_149) rfl ?_
        show Steps p.tables e below (T278.setTop (mkF m 150 #[.val (.int p0), .val (.int p1), .val (.int p2), .val (.int p3), .val (.int p4), .val (.int p5), .val (.ref b101), .val (.int (1 : Int32)), .val (.int (0 : Int32)), .val v255, .val v260, .val (.ref l_103), .unset, .unset, .unset, .unset] [(.int ((2 : Int32) + (0 : Int32)))])) _
        rw [show ((2 : Int32) + (0 : Int32)) = (2 : Int32) from by decide]
        show Steps p.tables e below (T278.setTop (mkF m 150 #[.val (.int p0), .val (.int p1), .val (.int p2), .val (.int p3), .val (.int p4), .val (.int p5), .val (.ref b101), .val (.int (1 : Int32)), .val (.int (0 : Int32)), .val v255, .val v260, .val (.ref l_103), .unset, .unset, .unset, .unset] [(.int (2 : Int32))])) _
        refine XS.istore X278.here hx rfl (hb hby at_150) rfl (l' := #[.val (.int p0), .val (.int p1), .val (.int p2), .val (.int p3), .val (.int p4), .val (.int p5), .val (.ref b101), .val (.int (1 : Int32)), .val (.int (0 : Int32)), .val v255, .val v260, .val (.ref l_103), .val (.int (2 : Int32)), .unset, .unset, .unset]) rfl ?_
        show Steps p.tables e below (T278.setTop (mkF m 152 #[.val (.int p0), .val (.int p1), .val (.int p2), .val (.int p3), .val (.int p4), .val (.int p5), .val (.ref b101), .val (.int (1 : Int32)), .val (.int (0 : Int32)), .val v255, .val v260, .val (.ref l_103), .val (.int (2 : Int32)), .unset, .unset, .unset] [])) _
        refine XS.aload X278.here hx rfl (hb hby at_152) rfl rfl ?_
        show Steps p.tables e below (T278.setTop (mkF m 154 #[.val (.int p0), .val (.int p1), .val (.int p2), .val (.int p3), .val (.int p4), .val (.int p5), .val (.ref b101), .val (.int (1 : Int32)), .val (.int (0 : Int32)), .val v255, .val v260, .val (.ref l_103), .val (.int (2 : Int32)), .unset, .unset, .unset] [(.ref l_103)])) _
        refine st281.trans ?_
        show Steps p.tables e below (T281.setTop (mkF m 159 #[.val (.int p0), .val (.int p1), .val (.int p2), .val (.int p3), .val (.int p4), .val (.int p5), .val (.ref b101), .val (.int (1 : Int32)), .val (.int (0 : Int32)), .val v255, .val v260, .val (.ref l_103), .val (.int (2 : Int32)), .unset, .unset, .unset] [(.int (2 : Int32))])) _
        refine XS.iload X281.here hx rfl (hb hby at_159) rfl ?_
        refine XS.icmpYes X281.here hx rfl (pc0 := 161) (pc' := 166) rfl (hb hby at_161) rfl (teq (by decide : (2 : Int32) = (2 : Int32))).1 (by decide) (by decide) ?_
        show Steps p.tables e below (T281.setTop (mkF m 166 #[.val (.int p0), .val (.int p1), .val (.int p2), .val (.int p3), .val (.int p4), .val (.int p5), .val (.ref b101), .val (.int (1 : Int32)), .val (.int (0 : Int32)), .val v255, .val v260, .val (.ref l_103), .val (.int (2 : Int32)), .unset, .unset, .unset] [])) _
        refine XS.aload X281.here hx rfl (hb hby at_166) rfl rfl ?_
        refine XS.iconst X281.here hx rfl (hb hby at_168) ?_
        show Steps p.tables e below (T281.setTop (mkF m 169 #[.val (.int p0), .val (.int p1), .val (.int p2), .val (.int p3), .val (.int p4), .val (.int p5), .val (.ref b101), .val (.int (1 : Int32)), .val (.int (0 : Int32)), .val v255, .val v260, .val (.ref l_103), .val (.int (2 : Int32)), .unset, .unset, .unset] [(.int (0 : Int32)), (.ref l_103)])) _
        refine st285.trans ?_
        show Steps p.tables e below (T285.setTop (mkF m 174 #[.val (.int p0), .val (.int p1), .val (.int p2), .val (.int p3), .val (.int p4), .val (.int p5), .val (.ref b101), .val (.int (1 : Int32)), .val (.int (0 : Int32)), .val v255, .val v260, .val (.ref l_103), .val (.int (2 : Int32)), .unset, .unset, .unset] [(.ref e_103)])) _
        refine st287 _ ?_
        show Steps p.tables e below (T287.setTop (mkF m 177 #[.val (.int p0), .val (.int p1), .val (.int p2), .val (.int p3), .val (.int p4), .val (.int p5), .val (.ref b101), .val (.int (1 : Int32)), .val (.int (0 : Int32)), .val v255, .val v260, .val (.ref l_103), .val (.int (2 : Int32)), .unset, .unset, .unset] [(.ref e_103)])) _
        refine XS.iconst X287.here hx rfl (hb hby at_177) ?_
        refine XS.aconstNull X287.here hx rfl (hb hby at_178) ?_
        show Steps p.tables e below (T287.setTop (mkF m 179 #[.val (.int p0), .val (.int p1), .val (.int p2), .val (.int p3), .val (.int p4), .val (.int p5), .val (.ref b101), .val (.int (1 : Int32)), .val (.int (0 : Int32)), .val v255, .val v260, .val (.ref l_103), .val (.int (2 : Int32)), .unset, .unset, .unset] [.null, (.int (0 : Int32)), (.ref e_103)])) _
        refine st290 _ ?_
        show Steps p.tables e below (T290.setTop (mkF m 182 #[.val (.int p0), .val (.int p1), .val (.int p2), .val (.int p3), .val (.int p4), .val (.int p5), .val (.ref b101), .val (.int (1 : Int32)), .val (.int (0 : Int32)), .val v255, .val v260, .val (.ref l_103), .val (.int (2 : Int32)), .unset, .unset, .unset] [(.int (1 : Int32))])) _
        refine XS.ifYes X290.here hx rfl (pc0 := 182) (pc' := 187) rfl (hb hby at_182) rfl ((if0 _ _).trans (feq (by decide : ¬ ((1 : Int32) = (0 : Int32)))).2) (by decide) (by decide) ?_
        show Steps p.tables e below (T290.setTop (mkF m 187 #[.val (.int p0), .val (.int p1), .val (.int p2), .val (.int p3), .val (.int p4), .val (.int p5), .val (.ref b101), .val (.int (1 : Int32)), .val (.int (0 : Int32)), .val v255, .val v260, .val (.ref l_103), .val (.int (2 : Int32)), .unset, .unset, .unset] [])) _
        refine XS.iconst X290.here hx rfl (hb hby at_187) ?_
        refine XS.istore X290.here hx rfl (hb hby at_188) rfl (l' := #[.val (.int p0), .val (.int p1), .val (.int p2), .val (.int p3), .val (.int p4), .val (.int p5), .val (.ref b101), .val (.int (1 : Int32)), .val (.int (0 : Int32)), .val v255, .val v260, .val (.ref l_103), .val (.int (2 : Int32)), .val (.int (1 : Int32)), .unset, .unset]) rfl ?_
        show Steps p.tables e below (T290.setTop (mkF m 190 #[.val (.int p0), .val (.int p1), .val (.int p2), .val (.int p3), .val (.int p4), .val (.int p5), .val (.ref b101), .val (.int (1 : Int32)), .val (.int (0 : Int32)), .val v255, .val v260, .val (.ref l_103), .val (.int (2 : Int32)), .val (.int (1 : Int32)), .unset, .unset] [])) _
        refine XS.iload X290.here hx rfl (hb hby at_190) rfl ?_
        refine XS.ifNo X290.here hx rfl (hb hby at_192) rfl ((if0 _ _).trans (feq (by decide : ¬ ((1 : Int32) = (0 : Int32)))).1) ?_
        show Steps p.tables e below (T290.setTop (mkF m 195 #[.val (.int p0), .val (.int p1), .val (.int p2), .val (.int p3), .val (.int p4), .val (.int p5), .val (.ref b101), .val (.int (1 : Int32)), .val (.int (0 : Int32)), .val v255, .val v260, .val (.ref l_103), .val (.int (2 : Int32)), .val (.int (1 : Int32)), .unset, .unset] [])) _
        refine XS.aload X290.here hx rfl (hb hby at_195) rfl rfl ?_
        refine XS.iload X290.here hx rfl (hb hby at_197) rfl ?_
        show Steps p.tables e below (T290.setTop (mkF m 199 #[.val (.int p0), .val (.int p1), .val (.int p2), .val (.int p3), .val (.int p4), .val (.int p5), .val (.ref b101), .val (.int (1 : Int32)), .val (.int (0 : Int32)), .val v255, .val v260, .val (.ref l_103), .val (.int (2 : Int32)), .val (.int (1 : Int32)), .unset, .unset] [(.int (1 : Int32)), (.ref l_103)])) _
        refine st291.trans ?_
        show Steps p.tables e below (T291.setTop (mkF m 204 #[.val (.int p0), .val (.int p1), .val (.int p2), .val (.int p3), .val (.int p4), .val (.int p5), .val (.ref b101), .val (.int (1 : Int32)), .val (.int (0 : Int32)), .val v255, .val v260, .val (.ref l_103), .val (.int (2 : Int32)), .val (.int (1 : Int32)), .unset, .unset] [(.ref e_273)])) _
        refine st293 _ ?_
        show Steps p.tables e below (T293.setTop (mkF m 207 #[.val (.int p0), .val (.int p1), .val (.int p2), .val (.int p3), .val (.int p4), .val (.int p5), .val (.ref b101), .val (.int (1 : Int32)), .val (.int (0 : Int32)), .val v255, .val v260, .val (.ref l_103), .val (.int (2 : Int32)), .val (.int (1 : Int32)), .unset, .unset] [(.ref e_273)])) _
        refine XS.iloadN X293.here hx rfl (hb hby at_207) rfl ?_
        refine XS.aload X293.here hx rfl (hb hby at_208) rfl hv255 ?_
        show Steps p.tables e below (T293.setTop (mkF m 210 #[.val (.int p0), .val (.int p1), .val (.int p2), .val (.int p3), .val (.int p4), .val (.int p5), .val (.ref b101), .val (.int (1 : Int32)), .val (.int (0 : Int32)), .val v255, .val v260, .val (.ref l_103), .val (.int (2 : Int32)), .val (.int (1 : Int32)), .unset, .unset] [v255, (.int p3), (.ref e_273)])) _
        refine st297 _ ?_
        show Steps p.tables e below (T297.setTop (mkF m 213 #[.val (.int p0), .val (.int p1), .val (.int p2), .val (.int p3), .val (.int p4), .val (.int p5), .val (.ref b101), .val (.int (1 : Int32)), .val (.int (0 : Int32)), .val v255, .val v260, .val (.ref l_103), .val (.int (2 : Int32)), .val (.int (1 : Int32)), .unset, .unset] [(.int (1 : Int32))])) _
        refine XS.ifYes X297.here hx rfl (pc0 := 213) (pc' := 218) rfl (hb hby at_213) rfl ((if0 _ _).trans (feq (by decide : ¬ ((1 : Int32) = (0 : Int32)))).2) (by decide) (by decide) ?_
        show Steps p.tables e below (T297.setTop (mkF m 218 #[.val (.int p0), .val (.int p1), .val (.int p2), .val (.int p3), .val (.int p4), .val (.int p5), .val (.ref b101), .val (.int (1 : Int32)), .val (.int (0 : Int32)), .val v255, .val v260, .val (.ref l_103), .val (.int (2 : Int32)), .val (.int (1 : Int32)), .unset, .unset] [])) _
        refine XS.iinc X297.here hx rfl (hb hby at_218) rfl (l' := #[.val (.int p0), .val (.int p1), .val (.int p2), .val (.int p3), .val (.int p4), .val (.int p5), .val (.ref b101), .val (.int (1 : Int32)), .val (.int (0 : Int32)), .val v255, .val v260, .val (.ref l_103), .val (.int (2 : Int32)), .val (.int ((1 : Int32) + (1 : Int32))), .unset, .unset]) rfl ?_
        show Steps p.tables e below (T297.setTop (mkF m 221 #[.val (.int p0), .val (.int p1), .val (.int p2), .val (.int p3), .val (.int p4), .val (.int p5), .val (.ref b101), .val (.int (1 : Int32)), .val (.int (0 : Int32)), .val v255, .val v260, .val (.ref l_103), .val (.int (2 : Int32)), .val (.int ((1 : Int32) + (1 : Int32))), .unset, .unset] [])) _
        rw [show ((1 : Int32) + (1 : Int32)) = (2 : Int32) from by decide]
        show Steps p.tables e below (T297.setTop (mkF m 221 #[.val (.int p0), .val (.int p1), .val (.int p2), .val (.int p3), .val (.int p4), .val (.int p5), .val (.ref b101), .val (.int (1 : Int32)), .val (.int (0 : Int32)), .val v255, .val v260, .val (.ref l_103), .val (.int (2 : Int32)), .val (.int (2 : Int32)), .unset, .unset] [])) _
        refine XS.iload X297.here hx rfl (hb hby at_221) rfl ?_
        refine XS.ifYes X297.here hx rfl (pc0 := 223) (pc' := 250) rfl (hb hby at_223) rfl ((if0 _ _).trans (teq (by decide : (0 : Int32) = (0 : Int32))).1) (by decide) (by decide) ?_
        show Steps p.tables e below (T297.setTop (mkF m 250 #[.val (.int p0), .val (.int p1), .val (.int p2), .val (.int p3), .val (.int p4), .val (.int p5), .val (.ref b101), .val (.int (1 : Int32)), .val (.int (0 : Int32)), .val v255, .val v260, .val (.ref l_103), .val (.int (2 : Int32)), .val (.int (2 : Int32)), .unset, .unset] [])) _
        refine XS.aload X297.here hx rfl (hb hby at_250) rfl rfl ?_
        show Steps p.tables e below (T297.setTop (mkF m 252 #[.val (.int p0), .val (.int p1), .val (.int p2), .val (.int p3), .val (.int p4), .val (.int p5), .val (.ref b101), .val (.int (1 : Int32)), .val (.int (0 : Int32)), .val v255, .val v260, .val (.ref l_103), .val (.int (2 : Int32)), .val (.int (2 : Int32)), .unset, .unset] [(.ref b101)])) _
        refine st298.trans ?_
        show Steps p.tables e below (T298.setTop (mkF m 255 #[.val (.int p0), .val (.int p1), .val (.int p2), .val (.int p3), .val (.int p4), .val (.int p5), .val (.ref b101), .val (.int (1 : Int32)), .val (.int (0 : Int32)), .val v255, .val v260, .val (.ref l_103), .val (.int (2 : Int32)), .val (.int (2 : Int32)), .unset, .unset] [(.ref l_278)])) _
        refine XS.astore X298.here hx rfl (hb hby at_255) rfl rfl (l' := #[.val (.int p0), .val (.int p1), .val (.int p2), .val (.int p3), .val (.int p4), .val (.int p5), .val (.ref b101), .val (.int (1 : Int32)), .val (.int (0 : Int32)), .val v255, .val v260, .val (.ref l_103), .val (.int (2 : Int32)), .val (.int (2 : Int32)), .val (.ref l_278), .unset]) rfl ?_
        show Steps p.tables e below (T298.setTop (mkF m 257 #[.val (.int p0), .val (.int p1), .val (.int p2), .val (.int p3), .val (.int p4), .val (.int p5), .val (.ref b101), .val (.int (1 : Int32)), .val (.int (0 : Int32)), .val v255, .val v260, .val (.ref l_103), .val (.int (2 : Int32)), .val (.int (2 : Int32)), .val (.ref l_278), .unset] [])) _
        refine XS.aload X298.here hx rfl (hb hby at_257) rfl rfl ?_
        show Steps p.tables e below (T298.setTop (mkF m 259 #[.val (.int p0), .val (.int p1), .val (.int p2), .val (.int p3), .val (.int p4), .val (.int p5), .val (.ref b101), .val (.int (1 : Int32)), .val (.int (0 : Int32)), .val v255, .val v260, .val (.ref l_103), .val (.int (2 : Int32)), .val (.int (2 : Int32)), .val (.ref l_278), .unset] [(.ref l_278)])) _
        refine st301.trans ?_
        show Steps p.tables e below (T301.setTop (mkF m 264 #[.val (.int p0), .val (.int p1), .val (.int p2), .val (.int p3), .val (.int p4), .val (.int p5), .val (.ref b101), .val (.int (1 : Int32)), .val (.int (0 : Int32)), .val v255, .val v260, .val (.ref l_103), .val (.int (2 : Int32)), .val (.int (2 : Int32)), .val (.ref l_278), .unset] [(.int (0 : Int32))])) _
        refine XS.ifYes X301.here hx rfl (pc0 := 264) (pc' := 269) rfl (hb hby at_264) rfl ((if0 _ _).trans (teq (by decide : (0 : Int32) = (0 : Int32))).1) (by decide) (by decide) ?_
        show Steps p.tables e below (T301.setTop (mkF m 269 #[.val (.int p0), .val (.int p1), .val (.int p2), .val (.int p3), .val (.int p4), .val (.int p5), .val (.ref b101), .val (.int (1 : Int32)), .val (.int (0 : Int32)), .val v255, .val v260, .val (.ref l_103), .val (.int (2 : Int32)), .val (.int (2 : Int32)), .val (.ref l_278), .unset] [])) _
        refine XS.aload X301.here hx rfl (hb hby at_269) rfl rfl ?_
        refine XS.iload X301.here hx rfl (hb hby at_271) rfl ?_
        refine XS.aload X301.here hx rfl (hb hby at_273) rfl hv255 ?_
        show Steps p.tables e below (T301.setTop (mkF m 275 #[.val (.int p0), .val (.int p1), .val (.int p2), .val (.int p3), .val (.int p4), .val (.int p5), .val (.ref b101), .val (.int (1 : Int32)), .val (.int (0 : Int32)), .val v255, .val v260, .val (.ref l_103), .val (.int (2 : Int32)), .val (.int (2 : Int32)), .val (.ref l_278), .unset] [v255, (.int p4), (.ref b101)])) _
        refine st303.trans ?_
        show Steps p.tables e below (T303.setTop (mkF m 278 #[.val (.int p0), .val (.int p1), .val (.int p2), .val (.int p3), .val (.int p4), .val (.int p5), .val (.ref b101), .val (.int (1 : Int32)), .val (.int (0 : Int32)), .val v255, .val v260, .val (.ref l_103), .val (.int (2 : Int32)), .val (.int (2 : Int32)), .val (.ref l_278), .unset] [])) _
        refine XS.aload X303.here hx rfl (hb hby at_278) rfl rfl ?_
        show Steps p.tables e below (T303.setTop (mkF m 280 #[.val (.int p0), .val (.int p1), .val (.int p2), .val (.int p3), .val (.int p4), .val (.int p5), .val (.ref b101), .val (.int (1 : Int32)), .val (.int (0 : Int32)), .val v255, .val v260, .val (.ref l_103), .val (.int (2 : Int32)), .val (.int (2 : Int32)), .val (.ref l_278), .unset] [(.ref l_103)])) _
        refine st306.trans ?_
        show Steps p.tables e below (T306.setTop (mkF m 285 #[.val (.int p0), .val (.int p1), .val (.int p2), .val (.int p3), .val (.int p4), .val (.int p5), .val (.ref b101), .val (.int (1 : Int32)), .val (.int (0 : Int32)), .val v255, .val v260, .val (.ref l_103), .val (.int (2 : Int32)), .val (.int (2 : Int32)), .val (.ref l_278), .unset] [(.int (2 : Int32))])) _
        refine XS.iload X306.here hx rfl (hb hby at_285) rfl ?_
        refine XS.icmpYes X306.here hx rfl (pc0 := 287) (pc' := 292) rfl (hb hby at_287) rfl (teq (by decide : (2 : Int32) = (2 : Int32))).1 (by decide) (by decide) ?_
        show Steps p.tables e below (T306.setTop (mkF m 292 #[.val (.int p0), .val (.int p1), .val (.int p2), .val (.int p3), .val (.int p4), .val (.int p5), .val (.ref b101), .val (.int (1 : Int32)), .val (.int (0 : Int32)), .val v255, .val v260, .val (.ref l_103), .val (.int (2 : Int32)), .val (.int (2 : Int32)), .val (.ref l_278), .unset] [])) _
        refine XS.aload X306.here hx rfl (hb hby at_292) rfl rfl ?_
        show Steps p.tables e below (T306.setTop (mkF m 294 #[.val (.int p0), .val (.int p1), .val (.int p2), .val (.int p3), .val (.int p4), .val (.int p5), .val (.ref b101), .val (.int (1 : Int32)), .val (.int (0 : Int32)), .val v255, .val v260, .val (.ref l_103), .val (.int (2 : Int32)), .val (.int (2 : Int32)), .val (.ref l_278), .unset] [(.ref b101)])) _
        refine st310.trans ?_
        show Steps p.tables e below (T310.setTop (mkF m 297 #[.val (.int p0), .val (.int p1), .val (.int p2), .val (.int p3), .val (.int p4), .val (.int p5), .val (.ref b101), .val (.int (1 : Int32)), .val (.int (0 : Int32)), .val v255, .val v260, .val (.ref l_103), .val (.int (2 : Int32)), .val (.int (2 : Int32)), .val (.ref l_278), .unset] [(.ref l_298)])) _
        refine XS.astore X310.here hx rfl (hb hby at_297) rfl rfl (l' := #[.val (.int p0), .val (.int p1), .val (.int p2), .val (.int p3), .val (.int p4), .val (.int p5), .val (.ref b101), .val (.int (1 : Int32)), .val (.int (0 : Int32)), .val v255, .val v260, .val (.ref l_103), .val (.int (2 : Int32)), .val (.int (2 : Int32)), .val (.ref l_278), .val (.ref l_298)]) rfl ?_
        show Steps p.tables e below (T310.setTop (mkF m 299 #[.val (.int p0), .val (.int p1), .val (.int p2), .val (.int p3), .val (.int p4), .val (.int p5), .val (.ref b101), .val (.int (1 : Int32)), .val (.int (0 : Int32)), .val v255, .val v260, .val (.ref l_103), .val (.int (2 : Int32)), .val (.int (2 : Int32)), .val (.ref l_278), .val (.ref l_298)] [])) _
        refine XS.aload X310.here hx rfl (hb hby at_299) rfl rfl ?_
        show Steps p.tables e below (T310.setTop (mkF m 301 #[.val (.int p0), .val (.int p1), .val (.int p2), .val (.int p3), .val (.int p4), .val (.int p5), .val (.ref b101), .val (.int (1 : Int32)), .val (.int (0 : Int32)), .val v255, .val v260, .val (.ref l_103), .val (.int (2 : Int32)), .val (.int (2 : Int32)), .val (.ref l_278), .val (.ref l_298)] [(.ref l_298)])) _
        refine st313.trans ?_
        show Steps p.tables e below (T313.setTop (mkF m 306 #[.val (.int p0), .val (.int p1), .val (.int p2), .val (.int p3), .val (.int p4), .val (.int p5), .val (.ref b101), .val (.int (1 : Int32)), .val (.int (0 : Int32)), .val v255, .val v260, .val (.ref l_103), .val (.int (2 : Int32)), .val (.int (2 : Int32)), .val (.ref l_278), .val (.ref l_298)] [(.int (1 : Int32))])) _
        refine XS.iconst X313.here hx rfl (hb hby at_306) ?_
        refine XS.icmpNo X313.here hx rfl (hb hby at_307) rfl (teq (by decide : (1 : Int32) = (1 : Int32))).2 ?_
        show Steps p.tables e below (T313.setTop (mkF m 310 #[.val (.int p0), .val (.int p1), .val (.int p2), .val (.int p3), .val (.int p4), .val (.int p5), .val (.ref b101), .val (.int (1 : Int32)), .val (.int (0 : Int32)), .val v255, .val v260, .val (.ref l_103), .val (.int (2 : Int32)), .val (.int (2 : Int32)), .val (.ref l_278), .val (.ref l_298)] [])) _
        refine XS.aload X313.here hx rfl (hb hby at_310) rfl rfl ?_
        refine XS.iconst X313.here hx rfl (hb hby at_312) ?_
        show Steps p.tables e below (T313.setTop (mkF m 313 #[.val (.int p0), .val (.int p1), .val (.int p2), .val (.int p3), .val (.int p4), .val (.int p5), .val (.ref b101), .val (.int (1 : Int32)), .val (.int (0 : Int32)), .val v255, .val v260, .val (.ref l_103), .val (.int (2 : Int32)), .val (.int (2 : Int32)), .val (.ref l_278), .val (.ref l_298)] [(.int (0 : Int32)), (.ref l_298)])) _
        refine st317.trans ?_
        show Steps p.tables e below (T317.setTop (mkF m 318 #[.val (.int p0), .val (.int p1), .val (.int p2), .val (.int p3), .val (.int p4), .val (.int p5), .val (.ref b101), .val (.int (1 : Int32)), .val (.int (0 : Int32)), .val v255, .val v260, .val (.ref l_103), .val (.int (2 : Int32)), .val (.int (2 : Int32)), .val (.ref l_278), .val (.ref l_298)] [(.ref e_303)])) _
        refine st319 _ ?_
        show Steps p.tables e below (T319.setTop (mkF m 321 #[.val (.int p0), .val (.int p1), .val (.int p2), .val (.int p3), .val (.int p4), .val (.int p5), .val (.ref b101), .val (.int (1 : Int32)), .val (.int (0 : Int32)), .val v255, .val v260, .val (.ref l_103), .val (.int (2 : Int32)), .val (.int (2 : Int32)), .val (.ref l_278), .val (.ref l_298)] [(.ref e_303)])) _
        refine XS.iload X319.here hx rfl (hb hby at_321) rfl ?_
        refine XS.aload X319.here hx rfl (hb hby at_323) rfl hv255 ?_
        show Steps p.tables e below (T319.setTop (mkF m 325 #[.val (.int p0), .val (.int p1), .val (.int p2), .val (.int p3), .val (.int p4), .val (.int p5), .val (.ref b101), .val (.int (1 : Int32)), .val (.int (0 : Int32)), .val v255, .val v260, .val (.ref l_103), .val (.int (2 : Int32)), .val (.int (2 : Int32)), .val (.ref l_278), .val (.ref l_298)] [v255, (.int p4), (.ref e_303)])) _
        refine st323 _ ?_
        show Steps p.tables e below (T323.setTop (mkF m 328 #[.val (.int p0), .val (.int p1), .val (.int p2), .val (.int p3), .val (.int p4), .val (.int p5), .val (.ref b101), .val (.int (1 : Int32)), .val (.int (0 : Int32)), .val v255, .val v260, .val (.ref l_103), .val (.int (2 : Int32)), .val (.int (2 : Int32)), .val (.ref l_278), .val (.ref l_298)] [(.int (1 : Int32))])) _
        refine XS.ifNo X323.here hx rfl (hb hby at_328) rfl ((if0 _ _).trans (feq (by decide : ¬ ((1 : Int32) = (0 : Int32)))).1) ?_
        show Steps p.tables e below (T323.setTop (mkF m 331 #[.val (.int p0), .val (.int p1), .val (.int p2), .val (.int p3), .val (.int p4), .val (.int p5), .val (.ref b101), .val (.int (1 : Int32)), .val (.int (0 : Int32)), .val v255, .val v260, .val (.ref l_103), .val (.int (2 : Int32)), .val (.int (2 : Int32)), .val (.ref l_278), .val (.ref l_298)] [])) _
        refine XS.iconst X323.here hx rfl (hb hby at_331) ?_
        refine XS.goto X323.here hx rfl (pc0 := 332) (pc' := 336) rfl (hb hby at_332) (by decide) (by decide) ?_
        show Steps p.tables e below (T323.setTop (mkF m 336 #[.val (.int p0), .val (.int p1), .val (.int p2), .val (.int p3), .val (.int p4), .val (.int p5), .val (.ref b101), .val (.int (1 : Int32)), .val (.int (0 : Int32)), .val v255, .val v260, .val (.ref l_103), .val (.int (2 : Int32)), .val (.int (2 : Int32)), .val (.ref l_278), .val (.ref l_298)] [(.int (1 : Int32))])) _
        exact Jvm.RoadKit.retOut X323 hx Bd.returns rfl (Or.inl ⟨rfl, by simp, _, rfl⟩) (hb hby at_336) hr
      · show Q_rm0 Z p0 p1 p2 p3 p4 p5 w_Kind_EXIT w_Kind_ENTRY wd kd vd zc h0 n0 _ T323.heap _
        rw [e323]
        unfold Q_rm0
        exact ⟨rfl, N323, K332⟩
    · have S333 : ∀ t, Steps p.tables e below (T103.setTop (mkF m 44 #[.val (.int p0), .val (.int p1), .val (.int p2), .val (.int p3), .val (.int p4), .val (.int p5), .val (.ref b101), .val (.int (1 : Int32)), .val (.int (1 : Int32)), .unset, .unset, .unset, .unset, .unset, .unset, .unset] [(.int (p5 &&& (4 : Int32)))])) t → Steps p.tables e below (s₁.setTop (entryFrame m #[(.int p0), (.int p1), (.int p2), (.int p3), (.int p4), (.int p5)] maxLocals)) t := fun t k => by
        refine S252 t ?_
        show Steps p.tables e below (T103.setTop (mkF m 30 #[.val (.int p0), .val (.int p1), .val (.int p2), .val (.int p3), .val (.int p4), .val (.int p5), .val (.ref b101), .val (.int (1 : Int32)), .unset, .unset, .unset, .unset, .unset, .unset, .unset, .unset] [(.int (p5 &&& (2 : Int32)))])) _
        refine XS.ifNo X103b.here hx rfl (hb hby at_30) rfl ((if0 _ _).trans (feq hc251).1) ?_
        show Steps p.tables e below (T103.setTop (mkF m 33 #[.val (.int p0), .val (.int p1), .val (.int p2), .val (.int p3), .val (.int p4), .val (.int p5), .val (.ref b101), .val (.int (1 : Int32)), .unset, .unset, .unset, .unset, .unset, .unset, .unset, .unset] [])) _
        refine XS.iconst X103b.here hx rfl (hb hby at_33) ?_
        refine XS.goto X103b.here hx rfl (pc0 := 34) (pc' := 38) rfl (hb hby at_34) (by decide) (by decide) ?_
        show Steps p.tables e below (T103.setTop (mkF m 38 #[.val (.int p0), .val (.int p1), .val (.int p2), .val (.int p3), .val (.int p4), .val (.int p5), .val (.ref b101), .val (.int (1 : Int32)), .unset, .unset, .unset, .unset, .unset, .unset, .unset, .unset] [(.int (1 : Int32))])) _
        refine XS.istore X103b.here hx rfl (hb hby at_38) rfl (l' := #[.val (.int p0), .val (.int p1), .val (.int p2), .val (.int p3), .val (.int p4), .val (.int p5), .val (.ref b101), .val (.int (1 : Int32)), .val (.int (1 : Int32)), .unset, .unset, .unset, .unset, .unset, .unset, .unset]) rfl ?_
        show Steps p.tables e below (T103.setTop (mkF m 40 #[.val (.int p0), .val (.int p1), .val (.int p2), .val (.int p3), .val (.int p4), .val (.int p5), .val (.ref b101), .val (.int (1 : Int32)), .val (.int (1 : Int32)), .unset, .unset, .unset, .unset, .unset, .unset, .unset] [])) _
        refine XS.iload X103b.here hx rfl (hb hby at_40) rfl ?_
        refine XS.iconst X103b.here hx rfl (hb hby at_42) ?_
        refine XS.iand X103b.here hx rfl (hb hby at_43) rfl ?_
        exact k
      obtain ⟨T335, h335, vm335, k335, v335, Lj335, X335, Nj335, e335, K335, hS335, hk335, hZ335, hown335, hv335, Mj335, S335⟩ : ∃ (T' : State) (h' : Heap) (vm' : Vm) (k' : Nat) (v335 : Value) (L' : List Loc), JoinStand X103b (s.setVm vm') T' L' 2 5 ∧ Fr n0 L' ∧ T'.heap = h' ∧ Keep T103.heap h' [] ∧ s.Since vm' k' ∧ k' ≤ h'.size ∧ Z.Warmed39 (s.setVm vm').vm ∧ (s.setVm vm').vm.findClass "com/example/fixlore/fixlore/lang/GraphBuilderSuspendPinLaw" = some m.cls ∧ v335.isRef = true ∧ OptExa Z h' v335 "java/lang/String" ∧ ∀ t, Steps p.tables e below (T'.setTop (mkF m 64 #[.val (.int p0), .val (.int p1), .val (.int p2), .val (.int p3), .val (.int p4), .val (.int p5), .val (.ref b101), .val (.int (1 : Int32)), .val (.int (1 : Int32)), .unset, .unset, .unset, .unset, .unset, .unset, .unset] [v335])) t → Steps p.tables e below (s₁.setTop (entryFrame m #[(.int p0), (.int p1), (.int p2), (.int p3), (.int p4), (.int p5)] maxLocals)) t := by
        by_cases hc334 : (p5 &&& (4 : Int32)) = (0 : Int32)
        · refine ⟨T103, _, _, _, .null, [], own_jn (X103b.more (by decide) (by decide)), Fr.nil n0, rfl, (Keep.refl _ []), hS103, (Nat.le_refl _), hZ103, hown103, rfl, own_mnull, fun t k => ?_⟩
          refine S333 t ?_
          show Steps p.tables e below (T103.setTop (mkF m 44 #[.val (.int p0), .val (.int p1), .val (.int p2), .val (.int p3), .val (.int p4), .val (.int p5), .val (.ref b101), .val (.int (1 : Int32)), .val (.int (1 : Int32)), .unset, .unset, .unset, .unset, .unset, .unset, .unset] [(.int (p5 &&& (4 : Int32)))])) _
          refine XS.ifYes X103b.here hx rfl (pc0 := 44) (pc' := 63) rfl (hb hby at_44) rfl ((if0 _ _).trans (teq hc334).1) (by decide) (by decide) ?_
          show Steps p.tables e below (T103.setTop (mkF m 63 #[.val (.int p0), .val (.int p1), .val (.int p2), .val (.int p3), .val (.int p4), .val (.int p5), .val (.ref b101), .val (.int (1 : Int32)), .val (.int (1 : Int32)), .unset, .unset, .unset, .unset, .unset, .unset, .unset] [])) _
          refine XS.aconstNull X103b.here hx rfl (hb hby at_63) ?_
          exact k
        · have O336 : Old Z n0 T103.heap := Old.keep O102 K103 (allS g_b101 all0)
          obtain ⟨_, _, ⟨T337, L337, k337, n337⟩, -, X337, ⟨Lc337, hQ337, l337, y337, z337⟩, st337⟩ := Jvm.LawKit.callS X103b hx (y := (⟨"java/lang/String", "valueOf", "(C)Ljava/lang/String;"⟩ : MethodName)) hown103 (mvT hZ103 (hwk hw 266 rfl)) (mvT hZ103 (hwk hw 267 rfl)) (mvT hZ103 (hwk hw 102 rfl)) (mvT hZ103 (hwk hw 268 rfl)) (by decide) (backOf (W := 0) (rm32 l Z a0 hw [] ((((p5.toUInt32 >>> ((8 : Int32) &&& 31).toUInt32).toInt32) &&& (255 : Int32)).toUInt32.toUInt16.toUInt32.toInt32) zc T103.heap n0 O336 SZ PZ (own_chm _)) hZ103 (hwk hw 268 rfl) (hwk hw 102 rfl) (by decide) (by decide)) (g := (mkF m 57 #[.val (.int p0), .val (.int p1), .val (.int p2), .val (.int p3), .val (.int p4), .val (.int p5), .val (.ref b101), .val (.int (1 : Int32)), .val (.int (1 : Int32)), .unset, .unset, .unset, .unset, .unset, .unset, .unset] [(.int ((((p5.toUInt32 >>> ((8 : Int32) &&& 31).toUInt32).toInt32) &&& (255 : Int32)).toUInt32.toUInt16.toUInt32.toInt32))])) rfl (by rw [hml]; rfl) (argsL := [(.int ((((p5.toUInt32 >>> ((8 : Int32) &&& 31).toUInt32).toInt32) &&& (255 : Int32)).toUInt32.toUInt16.toUInt32.toInt32))]) (rest := []) (lenOf pd_18 rfl) rfl (by show 2 * 0 + _ ≤ _; exact Nat.le_of_eq rfl) (hb hby at_57) (fun _ _ => ⟨rfl, (rfl : T103.heap = T103.heap), (by decide : 25 + 2 ≤ _), (by decide : 174 + 5 ≤ _)⟩)
          dsimp only [Pt.U, Pt.locs, Pt.cells, Pt.slots] at X337 l337 y337 z337 st337 hQ337
          subst l337 y337 z337
          unfold Q_rm32 at hQ337
          obtain ⟨b_337, t_337, k_337, rfl, N337q, K337, ge_b_337, ge_t_337, f337_0, f337_1, f337_2, f337_3, f337_4⟩ := hQ337
          have N337 := Fr.app N103 N337q
          have g_b_337 : n0 ≤ b_337 := Nat.le_trans (old_le O336) ge_b_337
          have g_t_337 : n0 ≤ t_337 := Nat.le_trans (old_le O336) ge_t_337
          refine ⟨T337, _, _, _, (.ref b_337), Lc337, X337.more (by decide) (by decide), N337q, rfl, (Keep.trans (Keep.refl _ []) K337 all0), hS103, (Nat.le_trans (Nat.le_refl _) (Nat.le_trans (Nat.le_refl _) K337.1)), hZ103, hown103, rfl, (own_mref f337_0), fun t k => ?_⟩
          refine S333 t ?_
          show Steps p.tables e below (T103.setTop (mkF m 44 #[.val (.int p0), .val (.int p1), .val (.int p2), .val (.int p3), .val (.int p4), .val (.int p5), .val (.ref b101), .val (.int (1 : Int32)), .val (.int (1 : Int32)), .unset, .unset, .unset, .unset, .unset, .unset, .unset] [(.int (p5 &&& (4 : Int32)))])) _
          refine XS.ifNo X103b.here hx rfl (hb hby at_44) rfl ((if0 _ _).trans (feq hc334).1) ?_
          show Steps p.tables e below (T103.setTop (mkF m 47 #[.val (.int p0), .val (.int p1), .val (.int p2), .val (.int p3), .val (.int p4), .val (.int p5), .val (.ref b101), .val (.int (1 : Int32)), .val (.int (1 : Int32)), .unset, .unset, .unset, .unset, .unset, .unset, .unset] [])) _
          refine XS.iload X103b.here hx rfl (hb hby at_47) rfl ?_
          refine XS.bipush X103b.here hx rfl (hb hby at_49) ?_
          refine XS.iushr X103b.here hx rfl (hb hby at_51) rfl ?_
          show Steps p.tables e below (T103.setTop (mkF m 52 #[.val (.int p0), .val (.int p1), .val (.int p2), .val (.int p3), .val (.int p4), .val (.int p5), .val (.ref b101), .val (.int (1 : Int32)), .val (.int (1 : Int32)), .unset, .unset, .unset, .unset, .unset, .unset, .unset] [(.int ((p5.toUInt32 >>> ((8 : Int32) &&& 31).toUInt32).toInt32))])) _
          refine XS.sipush X103b.here hx rfl (hb hby at_52) ?_
          refine XS.iand X103b.here hx rfl (hb hby at_55) rfl ?_
          show Steps p.tables e below (T103.setTop (mkF m 56 #[.val (.int p0), .val (.int p1), .val (.int p2), .val (.int p3), .val (.int p4), .val (.int p5), .val (.ref b101), .val (.int (1 : Int32)), .val (.int (1 : Int32)), .unset, .unset, .unset, .unset, .unset, .unset, .unset] [(.int (((p5.toUInt32 >>> ((8 : Int32) &&& 31).toUInt32).toInt32) &&& (255 : Int32)))])) _
          refine XS.i2c X103b.here hx rfl (hb hby at_56) rfl ?_
          show Steps p.tables e below (T103.setTop (mkF m 57 #[.val (.int p0), .val (.int p1), .val (.int p2), .val (.int p3), .val (.int p4), .val (.int p5), .val (.ref b101), .val (.int (1 : Int32)), .val (.int (1 : Int32)), .unset, .unset, .unset, .unset, .unset, .unset, .unset] [(.int ((((p5.toUInt32 >>> ((8 : Int32) &&& 31).toUInt32).toInt32) &&& (255 : Int32)).toUInt32.toUInt16.toUInt32.toInt32))])) _
          refine st337 _ ?_
          show Steps p.tables e below (T337.setTop (mkF m 60 #[.val (.int p0), .val (.int p1), .val (.int p2), .val (.int p3), .val (.int p4), .val (.int p5), .val (.ref b101), .val (.int (1 : Int32)), .val (.int (1 : Int32)), .unset, .unset, .unset, .unset, .unset, .unset, .unset] [(.ref b_337)])) _
          refine XS.goto X337.here hx rfl (pc0 := 60) (pc' := 64) rfl (hb hby at_60) (by decide) (by decide) ?_
          exact k
      unfold JoinStand at X335
      have N335 := Fr.app N103 Nj335
      have S338 : ∀ t, Steps p.tables e below (T335.setTop (mkF m 71 #[.val (.int p0), .val (.int p1), .val (.int p2), .val (.int p3), .val (.int p4), .val (.int p5), .val (.ref b101), .val (.int (1 : Int32)), .val (.int (1 : Int32)), .val v335, .unset, .unset, .unset, .unset, .unset, .unset] [(.int (p5 &&& (8 : Int32)))])) t → Steps p.tables e below (s₁.setTop (entryFrame m #[(.int p0), (.int p1), (.int p2), (.int p3), (.int p4), (.int p5)] maxLocals)) t := fun t k => by
        refine S335 t ?_
        show Steps p.tables e below (T335.setTop (mkF m 64 #[.val (.int p0), .val (.int p1), .val (.int p2), .val (.int p3), .val (.int p4), .val (.int p5), .val (.ref b101), .val (.int (1 : Int32)), .val (.int (1 : Int32)), .unset, .unset, .unset, .unset, .unset, .unset, .unset] [v335])) _
        refine XS.astore X335.here hx rfl (hb hby at_64) rfl hv335 (l' := #[.val (.int p0), .val (.int p1), .val (.int p2), .val (.int p3), .val (.int p4), .val (.int p5), .val (.ref b101), .val (.int (1 : Int32)), .val (.int (1 : Int32)), .val v335, .unset, .unset, .unset, .unset, .unset, .unset]) (XS.store1 (o := .unset) rfl (Or.inl rfl) (XT.cat1 hv335)) ?_
        show Steps p.tables e below (T335.setTop (mkF m 66 #[.val (.int p0), .val (.int p1), .val (.int p2), .val (.int p3), .val (.int p4), .val (.int p5), .val (.ref b101), .val (.int (1 : Int32)), .val (.int (1 : Int32)), .val v335, .unset, .unset, .unset, .unset, .unset, .unset] [])) _
        refine XS.iload X335.here hx rfl (hb hby at_66) rfl ?_
        refine XS.bipush X335.here hx rfl (hb hby at_68) ?_
        refine XS.iand X335.here hx rfl (hb hby at_70) rfl ?_
        exact k
      obtain ⟨T340, h340, vm340, k340, v340, Lj340, X340, Nj340, e340, K340, hS340, hk340, hZ340, hown340, hv340, Mj340, S340⟩ : ∃ (T' : State) (h' : Heap) (vm' : Vm) (k' : Nat) (v340 : Value) (L' : List Loc), JoinStand X335 (s.setVm vm') T' L' 2 5 ∧ Fr n0 L' ∧ T'.heap = h' ∧ Keep h335 h' [] ∧ s.Since vm' k' ∧ k' ≤ h'.size ∧ Z.Warmed39 (s.setVm vm').vm ∧ (s.setVm vm').vm.findClass "com/example/fixlore/fixlore/lang/GraphBuilderSuspendPinLaw" = some m.cls ∧ v340.isRef = true ∧ OptExa Z h' v340 "java/lang/String" ∧ ∀ t, Steps p.tables e below (T'.setTop (mkF m 91 #[.val (.int p0), .val (.int p1), .val (.int p2), .val (.int p3), .val (.int p4), .val (.int p5), .val (.ref b101), .val (.int (1 : Int32)), .val (.int (1 : Int32)), .val v335, .unset, .unset, .unset, .unset, .unset, .unset] [v340])) t → Steps p.tables e below (s₁.setTop (entryFrame m #[(.int p0), (.int p1), (.int p2), (.int p3), (.int p4), (.int p5)] maxLocals)) t := by
        by_cases hc339 : (p5 &&& (8 : Int32)) = (0 : Int32)
        · refine ⟨T335, _, _, _, .null, [], own_jn (X335.more (by decide) (by decide)), Fr.nil n0, e335, (Keep.refl _ []), hS335, hk335, hZ335, hown335, rfl, own_mnull, fun t k => ?_⟩
          refine S338 t ?_
          show Steps p.tables e below (T335.setTop (mkF m 71 #[.val (.int p0), .val (.int p1), .val (.int p2), .val (.int p3), .val (.int p4), .val (.int p5), .val (.ref b101), .val (.int (1 : Int32)), .val (.int (1 : Int32)), .val v335, .unset, .unset, .unset, .unset, .unset, .unset] [(.int (p5 &&& (8 : Int32)))])) _
          refine XS.ifYes X335.here hx rfl (pc0 := 71) (pc' := 90) rfl (hb hby at_71) rfl ((if0 _ _).trans (teq hc339).1) (by decide) (by decide) ?_
          show Steps p.tables e below (T335.setTop (mkF m 90 #[.val (.int p0), .val (.int p1), .val (.int p2), .val (.int p3), .val (.int p4), .val (.int p5), .val (.ref b101), .val (.int (1 : Int32)), .val (.int (1 : Int32)), .val v335, .unset, .unset, .unset, .unset, .unset, .unset] [])) _
          refine XS.aconstNull X335.here hx rfl (hb hby at_90) ?_
          exact k
        · have O341 : Old Z n0 T103.heap := Old.keep O102 K103 (allS g_b101 all0)
          have O342 : Old Z n0 h335 := Old.keep O341 K335 all0
          obtain ⟨_, _, ⟨T343, L343, k343, n343⟩, -, X343, ⟨Lc343, hQ343, l343, y343, z343⟩, st343⟩ := Jvm.LawKit.callS X335 hx (y := (⟨"java/lang/String", "valueOf", "(C)Ljava/lang/String;"⟩ : MethodName)) hown335 (mvT hZ335 (hwk hw 266 rfl)) (mvT hZ335 (hwk hw 267 rfl)) (mvT hZ335 (hwk hw 102 rfl)) (mvT hZ335 (hwk hw 268 rfl)) (by decide) (backOf (W := 0) (rm32 l Z a0 hw [] ((((p5.toUInt32 >>> ((16 : Int32) &&& 31).toUInt32).toInt32) &&& (255 : Int32)).toUInt32.toUInt16.toUInt32.toInt32) zc h335 n0 O342 SZ PZ (own_chm _)) hZ335 (hwk hw 268 rfl) (hwk hw 102 rfl) (by decide) (by decide)) (g := (mkF m 84 #[.val (.int p0), .val (.int p1), .val (.int p2), .val (.int p3), .val (.int p4), .val (.int p5), .val (.ref b101), .val (.int (1 : Int32)), .val (.int (1 : Int32)), .val v335, .unset, .unset, .unset, .unset, .unset, .unset] [(.int ((((p5.toUInt32 >>> ((16 : Int32) &&& 31).toUInt32).toInt32) &&& (255 : Int32)).toUInt32.toUInt16.toUInt32.toInt32))])) rfl (by rw [hml]; rfl) (argsL := [(.int ((((p5.toUInt32 >>> ((16 : Int32) &&& 31).toUInt32).toInt32) &&& (255 : Int32)).toUInt32.toUInt16.toUInt32.toInt32))]) (rest := []) (lenOf pd_18 rfl) rfl (by show 2 * 0 + _ ≤ _; exact Nat.le_of_eq rfl) (hb hby at_84) (fun _ _ => ⟨rfl, e335, (by decide : 27 + 2 ≤ _), (by decide : 179 + 5 ≤ _)⟩)
          dsimp only [Pt.U, Pt.locs, Pt.cells, Pt.slots] at X343 l343 y343 z343 st343 hQ343
          subst l343 y343 z343
          unfold Q_rm32 at hQ343
          obtain ⟨b_343, t_343, k_343, rfl, N343q, K343, ge_b_343, ge_t_343, f343_0, f343_1, f343_2, f343_3, f343_4⟩ := hQ343
          have N343 := Fr.app N335 N343q
          have g_b_343 : n0 ≤ b_343 := Nat.le_trans (old_le O342) ge_b_343
          have g_t_343 : n0 ≤ t_343 := Nat.le_trans (old_le O342) ge_t_343
          refine ⟨T343, _, _, _, (.ref b_343), Lc343, X343.more (by decide) (by decide), N343q, rfl, (Keep.trans (Keep.refl _ []) K343 all0), hS335, (Nat.le_trans hk335 (Nat.le_trans (Nat.le_refl _) K343.1)), hZ335, hown335, rfl, (own_mref f343_0), fun t k => ?_⟩
          refine S338 t ?_
          show Steps p.tables e below (T335.setTop (mkF m 71 #[.val (.int p0), .val (.int p1), .val (.int p2), .val (.int p3), .val (.int p4), .val (.int p5), .val (.ref b101), .val (.int (1 : Int32)), .val (.int (1 : Int32)), .val v335, .unset, .unset, .unset, .unset, .unset, .unset] [(.int (p5 &&& (8 : Int32)))])) _
          refine XS.ifNo X335.here hx rfl (hb hby at_71) rfl ((if0 _ _).trans (feq hc339).1) ?_
          show Steps p.tables e below (T335.setTop (mkF m 74 #[.val (.int p0), .val (.int p1), .val (.int p2), .val (.int p3), .val (.int p4), .val (.int p5), .val (.ref b101), .val (.int (1 : Int32)), .val (.int (1 : Int32)), .val v335, .unset, .unset, .unset, .unset, .unset, .unset] [])) _
          refine XS.iload X335.here hx rfl (hb hby at_74) rfl ?_
          refine XS.bipush X335.here hx rfl (hb hby at_76) ?_
          refine XS.iushr X335.here hx rfl (hb hby at_78) rfl ?_
          show Steps p.tables e below (T335.setTop (mkF m 79 #[.val (.int p0), .val (.int p1), .val (.int p2), .val (.int p3), .val (.int p4), .val (.int p5), .val (.ref b101), .val (.int (1 : Int32)), .val (.int (1 : Int32)), .val v335, .unset, .unset, .unset, .unset, .unset, .unset] [(.int ((p5.toUInt32 >>> ((16 : Int32) &&& 31).toUInt32).toInt32))])) _
          refine XS.sipush X335.here hx rfl (hb hby at_79) ?_
          refine XS.iand X335.here hx rfl (hb hby at_82) rfl ?_
          show Steps p.tables e below (T335.setTop (mkF m 83 #[.val (.int p0), .val (.int p1), .val (.int p2), .val (.int p3), .val (.int p4), .val (.int p5), .val (.ref b101), .val (.int (1 : Int32)), .val (.int (1 : Int32)), .val v335, .unset, .unset, .unset, .unset, .unset, .unset] [(.int (((p5.toUInt32 >>> ((16 : Int32) &&& 31).toUInt32).toInt32) &&& (255 : Int32)))])) _
          refine XS.i2c X335.here hx rfl (hb hby at_83) rfl ?_
          show Steps p.tables e below (T335.setTop (mkF m 84 #[.val (.int p0), .val (.int p1), .val (.int p2), .val (.int p3), .val (.int p4), .val (.int p5), .val (.ref b101), .val (.int (1 : Int32)), .val (.int (1 : Int32)), .val v335, .unset, .unset, .unset, .unset, .unset, .unset] [(.int ((((p5.toUInt32 >>> ((16 : Int32) &&& 31).toUInt32).toInt32) &&& (255 : Int32)).toUInt32.toUInt16.toUInt32.toInt32))])) _
          refine st343 _ ?_
          show Steps p.tables e below (T343.setTop (mkF m 87 #[.val (.int p0), .val (.int p1), .val (.int p2), .val (.int p3), .val (.int p4), .val (.int p5), .val (.ref b101), .val (.int (1 : Int32)), .val (.int (1 : Int32)), .val v335, .unset, .unset, .unset, .unset, .unset, .unset] [(.ref b_343)])) _
          refine XS.goto X343.here hx rfl (pc0 := 87) (pc' := 91) rfl (hb hby at_87) (by decide) (by decide) ?_
          exact k
      unfold JoinStand at X340
      have N340 := Fr.app N335 Nj340
      have c344 : Fld Z h340 b101 "com/example/fixlore/fixlore/lang/GraphBuilder" "pending" "Ljava/util/List;" (.ref l_103) := (Fld.keep (Fld.keep f103_1 K335 nin0) K340 nin0)
      have c345 : Exa Z h340 l_103 "java/util/ArrayList" := (Exa.keep (Exa.keep f103_2 K335) K340)
      have c346 : Fld Z h340 l_103 "java/util/ArrayList" "elementData" "[Ljava/lang/Object;" (.ref t_103) := (Fld.keep (Fld.keep f103_3 K335 nin0) K340 nin0)
      have c347 : Fld Z h340 l_103 "java/util/ArrayList" "size" "I" (.int (1 : Int32)) := (Fld.keep (Fld.keep f103_4 K335 nin0) K340 nin0)
      have c348 : Fld Z h340 l_103 "java/util/AbstractList" "modCount" "I" (.int ((0 : Int32) + (1 : Int32))) := (Fld.keep (Fld.keep f103_5 K335 nin0) K340 nin0)
      have c349 : Arv Z h340 t_103 k_103 (.object "java/lang/Object") (10 : Int32) [(.ref e_103), .null, .null, .null, .null, .null, .null, .null, .null, .null] .null := (Arv.keep (Arv.keep f103_6 K335 nin0) K340 nin0)
      have O350 : Old Z n0 T103.heap := Old.keep O102 K103 (allS g_b101 all0)
      have O351 : Old Z n0 h335 := Old.keep O350 K335 all0
      have O352 : Old Z n0 h340 := Old.keep O351 K340 all0
      have c354 : Exa Z h340 b101 "com/example/fixlore/fixlore/lang/GraphBuilder" := (Exa.keep (Exa.keep f103_0 K335) K340)
      obtain ⟨cq353, kq353, q353a, q353b, q353c⟩ := isOf hZ340 e340 c354
      obtain ⟨_, _, ⟨T353, L353, k353, n353⟩, -, X353, ⟨Lc353, hQ353, l353, y353, z353⟩, st353⟩ := X340.virtualBack hx (y := (⟨"com/example/fixlore/fixlore/lang/GraphBuilder", "join", "(ILjava/lang/String;)V"⟩ : MethodName)) (z := (⟨"com/example/fixlore/fixlore/lang/GraphBuilder", "join", "(ILjava/lang/String;)V"⟩ : MethodName)) hown340 (mvT hZ340 (hwk hw 222 rfl)) (mvT hZ340 (hwk hw 201 rfl)) (notFace_of_selects (args := #[]) (mvT hZ340 (hwk hw 203 rfl))) (mvT hZ340 (hwk hw 203 rfl)) (mvT hZ340 (hwk hw 202 rfl)) (by decide) (backOf (W := 0) (rm21_1 l Z a0 hw [] b101 p3 v335 l_103 e_103 ((0 : Int32) + (1 : Int32)) wd kd vd t_103 k_103 h340 n0 O352 c344 c345 c346 c347 c348 c349 f103_7 g_l_103 (ne_exa f103_0 f103_2 (by decide)) SD VD hv335 g_t_103 f103_11 (Exa.neArv f103_0 f103_6 (hwk hw 1 rfl))) hZ340 (hwk hw 204 rfl) (hwk hw 2 rfl) (by decide) (by decide)) q353a q353c (g := (mkF m 103 #[.val (.int p0), .val (.int p1), .val (.int p2), .val (.int p3), .val (.int p4), .val (.int p5), .val (.ref b101), .val (.int (1 : Int32)), .val (.int (1 : Int32)), .val v335, .val v340, .unset, .unset, .unset, .unset, .unset] [v335, (.int p3), (.ref b101)])) rfl (by rw [hml]; rfl) (Steps.refl _) (argsL := [(.int p3), v335]) (rest := []) (lenOf pd_9 rfl) rfl (by show 2 * 0 + _ ≤ _; exact Nat.le_of_eq rfl) (hb hby at_103) (fun _ _ => ⟨rfl, e340, (by decide : 29 + 1 ≤ _), (by decide : 184 + 2 ≤ _)⟩)
      dsimp only [Pt.U, Pt.locs, Pt.cells, Pt.slots] at X353 l353 y353 z353 st353 hQ353
      subst l353 y353 z353
      unfold Q_rm21_1 at hQ353
      obtain ⟨e_353, rfl, N353q, K353, ge_e_353, f353_0, f353_1, f353_2, f353_3, f353_4, f353_5, f353_6, f353_7, f353_8⟩ := hQ353
      have N353 := Fr.app N340 N353q
      have g_e_353 : n0 ≤ e_353 := Nat.le_trans (old_le O352) ge_e_353
      have c355 : Fld Z T353.heap b101 "com/example/fixlore/fixlore/lang/GraphBuilder" "pending" "Ljava/util/List;" (.ref l_103) := (Fld.keep c344 K353 (ninS (ne_exa f103_0 f103_2 (by decide)) (ninS (Nat.ne_of_lt (Nat.lt_of_lt_of_le (A101).lt ge_t_103)) nin0)))
      have O356 : Old Z n0 T353.heap := Old.keep O352 K353 (allS g_l_103 (allS g_t_103 all0))
      have c358 : Exa Z T353.heap b101 "com/example/fixlore/fixlore/lang/GraphBuilder" := (Exa.keep c354 K353)
      obtain ⟨cq357, kq357, q357a, q357b, q357c⟩ := isOf hZ340 (rfl : T353.heap = T353.heap) c358
      obtain ⟨_, _, ⟨T357, L357, k357, n357⟩, -, X357, ⟨Lc357, hQ357, l357, y357, z357⟩, st357⟩ := X353.virtualBack hx (y := (⟨"com/example/fixlore/fixlore/lang/GraphBuilder", "join", "(ILjava/lang/String;)V"⟩ : MethodName)) (z := (⟨"com/example/fixlore/fixlore/lang/GraphBuilder", "join", "(ILjava/lang/String;)V"⟩ : MethodName)) hown340 (mvT hZ340 (hwk hw 222 rfl)) (mvT hZ340 (hwk hw 201 rfl)) (notFace_of_selects (args := #[]) (mvT hZ340 (hwk hw 203 rfl))) (mvT hZ340 (hwk hw 203 rfl)) (mvT hZ340 (hwk hw 202 rfl)) (by decide) (backOf (W := 0) (rm21_2 l Z a0 hw [] b101 p4 v340 l_103 e_103 e_353 (((0 : Int32) + (1 : Int32)) + (1 : Int32)) wd kd vd t_103 k_103 T353.heap n0 O356 c355 f353_0 f353_1 f353_2 f353_3 f353_4 f103_7 g_l_103 (ne_exa f103_0 f103_2 (by decide)) SD VD hv340 g_t_103 f103_11 (Nat.ne_of_lt (Nat.lt_of_lt_of_le (A101).lt ge_t_103))) hZ340 (hwk hw 204 rfl) (hwk hw 2 rfl) (by decide) (by decide)) q357a q357c (g := (mkF m 117 #[.val (.int p0), .val (.int p1), .val (.int p2), .val (.int p3), .val (.int p4), .val (.int p5), .val (.ref b101), .val (.int (1 : Int32)), .val (.int (1 : Int32)), .val v335, .val v340, .unset, .unset, .unset, .unset, .unset] [v340, (.int p4), (.ref b101)])) rfl (by rw [hml]; rfl) (Steps.refl _) (argsL := [(.int p4), v340]) (rest := []) (lenOf pd_9 rfl) rfl (by show 2 * 0 + _ ≤ _; exact Nat.le_of_eq rfl) (hb hby at_117) (fun _ _ => ⟨rfl, (rfl : T353.heap = T353.heap), (by decide : 30 + 1 ≤ _), (by decide : 186 + 2 ≤ _)⟩)
      dsimp only [Pt.U, Pt.locs, Pt.cells, Pt.slots] at X357 l357 y357 z357 st357 hQ357
      subst l357 y357 z357
      unfold Q_rm21_2 at hQ357
      obtain ⟨e_357, rfl, N357q, K357, ge_e_357, f357_0, f357_1, f357_2, f357_3, f357_4, f357_5, f357_6, f357_7, f357_8⟩ := hQ357
      have N357 := Fr.app N353 N357q
      have g_e_357 : n0 ≤ e_357 := Nat.le_trans (old_le O356) ge_e_357
      have c359 : Exa Z T357.heap b101 "com/example/fixlore/fixlore/lang/GraphBuilder" := (Exa.keep c358 K357)
      have c360 : Fld Z T357.heap b101 "com/example/fixlore/fixlore/lang/GraphBuilder" "pending" "Ljava/util/List;" (.ref l_103) := (Fld.keep c355 K357 (ninS (ne_exa f103_0 f103_2 (by decide)) (ninS (Exa.neArv c359 f357_4 (hwk hw 1 rfl)) nin0)))
      have O361 : Old Z n0 T357.heap := Old.keep O356 K357 (allS g_l_103 (allS g_t_103 all0))
      obtain ⟨cq362, kq362, q362a, q362b, q362c⟩ := isOf hZ340 (rfl : T357.heap = T357.heap) c359
      obtain ⟨_, _, ⟨T362, L362, k362, n362⟩, -, X362, ⟨Lc362, hQ362, l362, y362, z362⟩, st362⟩ := X357.virtualBack hx (y := (⟨"com/example/fixlore/fixlore/lang/GraphBuilder", "suspend", "()Ljava/util/List;"⟩ : MethodName)) (z := (⟨"com/example/fixlore/fixlore/lang/GraphBuilder", "suspend", "()Ljava/util/List;"⟩ : MethodName)) hown340 (mvT hZ340 (hwk hw 223 rfl)) (mvT hZ340 (hwk hw 224 rfl)) (notFace_of_selects (args := #[]) (mvT hZ340 (hwk hw 226 rfl))) (mvT hZ340 (hwk hw 226 rfl)) (mvT hZ340 (hwk hw 225 rfl)) (by decide) (backOf (W := 0) (rm24 l Z a0 hw [] b101 l_103 wd T357.heap n0 O361 c359 g_b101 c360 SD) hZ340 (hwk hw 227 rfl) (hwk hw 2 rfl) (by decide) (by decide)) q362a q362c (g := (mkF m 122 #[.val (.int p0), .val (.int p1), .val (.int p2), .val (.int p3), .val (.int p4), .val (.int p5), .val (.ref b101), .val (.int (1 : Int32)), .val (.int (1 : Int32)), .val v335, .val v340, .unset, .unset, .unset, .unset, .unset] [(.ref b101)])) rfl (by rw [hml]; rfl) (Steps.refl _) (argsL := []) (rest := []) (lenOf pd_19 rfl) rfl (by show 2 * 0 + _ ≤ _; exact Nat.le_of_eq rfl) (hb hby at_122) (fun _ _ => ⟨rfl, (rfl : T357.heap = T357.heap), (by decide : 31 + 1 ≤ _), (by decide : 188 + 3 ≤ _)⟩)
      dsimp only [Pt.U, Pt.locs, Pt.cells, Pt.slots] at X362 l362 y362 z362 st362 hQ362
      subst l362 y362 z362
      unfold Q_rm24 at hQ362
      obtain ⟨l_362, rfl, N362q, K362, ge_l_362, f362_0, f362_1, f362_2, f362_3, f362_4, f362_5⟩ := hQ362
      have N362 := Fr.app N357 N362q
      have g_l_362 : n0 ≤ l_362 := Nat.le_trans (old_le O361) ge_l_362
      have c363 : Fld Z T362.heap l_103 "java/util/ArrayList" "size" "I" (.int (3 : Int32)) := (Fld.keep f357_2 K362 (ninS (ne_exa f103_2 f103_0 (by decide)) nin0))
      have O364 : Old Z n0 T362.heap := Old.keep O361 K362 (allS g_b101 all0)
      have c366 : Exa Z T362.heap l_103 "java/util/ArrayList" := (Exa.keep f357_0 K362)
      obtain ⟨cq365, kq365, q365a, q365b, q365c⟩ := isOf hZ340 (rfl : T362.heap = T362.heap) c366
      obtain ⟨_, _, ⟨T365, L365, k365, n365⟩, -, X365, ⟨Lc365, hQ365, l365, y365, z365⟩, st365⟩ := X362.interfaceBack hx (xi := (⟨"java/util/List", "size", "()I"⟩ : MethodName)) (y := (⟨"java/util/ArrayList", "size", "()I"⟩ : MethodName)) hown340 (mvT hZ340 (hwk hw 228 rfl)) (mvT hZ340 (hwk hw 183 rfl)) (mvT hZ340 (hwk hw 184 rfl)) (mvT hZ340 (hwk hw 185 rfl)) (mvT hZ340 (hwk hw 186 rfl)) (mvT hZ340 (hwk hw 187 rfl)) (mvT hZ340 (hwk hw 188 rfl)) (mvT hZ340 (hwk hw 155 rfl)) (by decide) (backOf (W := 0) (rm19 l Z a0 hw [] l_103 (3 : Int32) T362.heap n0 O364 c363) hZ340 (hwk hw 189 rfl) (hwk hw 11 rfl) (by decide) (by decide)) q365a q365b q365c (g := (mkF m 154 #[.val (.int p0), .val (.int p1), .val (.int p2), .val (.int p3), .val (.int p4), .val (.int p5), .val (.ref b101), .val (.int (1 : Int32)), .val (.int (1 : Int32)), .val v335, .val v340, .val (.ref l_103), .val (.int (3 : Int32)), .unset, .unset, .unset] [(.ref l_103)])) rfl (by rw [hml]; rfl) (Steps.refl _) (argsL := []) (rest := []) (lenOf pd_8 rfl) rfl (by show 2 * 0 + _ ≤ _; exact Nat.le_of_eq rfl) (hb hby at_154) (fun _ _ => ⟨rfl, (rfl : T362.heap = T362.heap), (by decide : 32 + 0 ≤ _), (by decide : 191 + 0 ≤ _)⟩)
      dsimp only [Pt.U, Pt.locs, Pt.cells, Pt.slots] at X365 l365 y365 z365 st365 hQ365
      subst l365 y365 z365
      unfold Q_rm19 at hQ365
      obtain ⟨rfl, N365q, e365⟩ := hQ365
      have N365 := Fr.app N362 N365q
      have c367 : Fld Z T362.heap l_103 "java/util/ArrayList" "elementData" "[Ljava/lang/Object;" (.ref t_103) := (Fld.keep f357_1 K362 (ninS (ne_exa f103_2 f103_0 (by decide)) nin0))
      have c368 : Arv Z T362.heap t_103 k_103 (.object "java/lang/Object") (10 : Int32) [(.ref e_103), (.ref e_353), (.ref e_357), .null, .null, .null, .null, .null, .null, .null] .null := (Arv.keep f357_4 K362 (ninS (Ne.symm (Exa.neArv c359 f357_4 (hwk hw 1 rfl))) nin0))
      obtain ⟨cq369, kq369, q369a, q369b, q369c⟩ := isOf hZ340 e365 c366
      obtain ⟨_, _, ⟨T369, L369, k369, n369⟩, -, X369, ⟨Lc369, hQ369, l369, y369, z369⟩, st369⟩ := X365.interfaceBack hx (xi := (⟨"java/util/List", "get", "(I)Ljava/lang/Object;"⟩ : MethodName)) (y := (⟨"java/util/ArrayList", "get", "(I)Ljava/lang/Object;"⟩ : MethodName)) hown340 (mvT hZ340 (hwk hw 229 rfl)) (mvT hZ340 (hwk hw 230 rfl)) (mvT hZ340 (hwk hw 231 rfl)) (mvT hZ340 (hwk hw 232 rfl)) (mvT hZ340 (hwk hw 233 rfl)) (mvT hZ340 (hwk hw 234 rfl)) (mvT hZ340 (hwk hw 235 rfl)) (mvT hZ340 (hwk hw 155 rfl)) (by decide) (backOf (W := 0) (rm25 l Z a0 hw [] l_103 (0 : Int32) (3 : Int32) t_103 k_103 ([(.ref e_103), (.ref e_353), (.ref e_357), .null, .null, .null, .null, .null, .null, .null]) e_103 T362.heap n0 O364 c366 c363 c367 c368 rfl (by decide) (by decide) (by decide)) hZ340 (hwk hw 236 rfl) (hwk hw 11 rfl) (by decide) (by decide)) q369a q369b q369c (g := (mkF m 169 #[.val (.int p0), .val (.int p1), .val (.int p2), .val (.int p3), .val (.int p4), .val (.int p5), .val (.ref b101), .val (.int (1 : Int32)), .val (.int (1 : Int32)), .val v335, .val v340, .val (.ref l_103), .val (.int (3 : Int32)), .unset, .unset, .unset] [(.int (0 : Int32)), (.ref l_103)])) rfl (by rw [hml]; rfl) (Steps.refl _) (argsL := [(.int (0 : Int32))]) (rest := []) (lenOf pd_11 rfl) rfl (by show 2 * 0 + _ ≤ _; exact Nat.le_of_eq rfl) (hb hby at_169) (fun _ _ => ⟨rfl, e365, (by decide : 32 + 0 ≤ _), (by decide : 191 + 0 ≤ _)⟩)
      dsimp only [Pt.U, Pt.locs, Pt.cells, Pt.slots] at X369 l369 y369 z369 st369 hQ369
      subst l369 y369 z369
      unfold Q_rm25 at hQ369
      obtain ⟨rfl, N369q, e369⟩ := hQ369
      have N369 := Fr.app N365 N369q
      have c370 : Exa Z T362.heap e_103 "com/example/fixlore/fixlore/lang/GraphBuilder$End" := (Exa.keep (Exa.keep (Exa.keep (Exa.keep (Exa.keep f103_8 K335) K340) K353) K357) K362)
      obtain ⟨T371, X371, e371, st371⟩ := castY X369 hx hZ340 hown340 (hwk hw 250 rfl) e369 (Ins.self c370) (g := (mkF m 174 #[.val (.int p0), .val (.int p1), .val (.int p2), .val (.int p3), .val (.int p4), .val (.int p5), .val (.ref b101), .val (.int (1 : Int32)), .val (.int (1 : Int32)), .val v335, .val v340, .val (.ref l_103), .val (.int (3 : Int32)), .unset, .unset, .unset] [(.ref e_103)])) rfl rfl (hb hby at_174)
      have c372 : Fld Z T362.heap e_103 "com/example/fixlore/fixlore/lang/GraphBuilder$End" "from" "I" (.int (0 : Int32)) := (Fld.keep (Fld.keep (Fld.keep (Fld.keep (Fld.keep f103_9 K335 nin0) K340 nin0) K353 (ninS (ne_exa f103_8 f103_2 (by decide)) (ninS (Exa.neArv c370 c368 (hwk hw 206 rfl)) nin0))) K357 (ninS (ne_exa f103_8 f103_2 (by decide)) (ninS (Exa.neArv c370 c368 (hwk hw 206 rfl)) nin0))) K362 (ninS (ne_exa f103_8 f103_0 (by decide)) nin0))
      have c373 : Fld Z T362.heap e_103 "com/example/fixlore/fixlore/lang/GraphBuilder$End" "branch" "Ljava/lang/String;" .null := (Fld.keep (Fld.keep (Fld.keep (Fld.keep (Fld.keep f103_10 K335 nin0) K340 nin0) K353 (ninS (ne_exa f103_8 f103_2 (by decide)) (ninS (Exa.neArv c370 c368 (hwk hw 206 rfl)) nin0))) K357 (ninS (ne_exa f103_8 f103_2 (by decide)) (ninS (Exa.neArv c370 c368 (hwk hw 206 rfl)) nin0))) K362 (ninS (ne_exa f103_8 f103_0 (by decide)) nin0))
      obtain ⟨_, _, ⟨T374, L374, k374, n374⟩, -, X374, ⟨Lc374, hQ374, l374, y374, z374⟩, st374⟩ := Jvm.LawKit.callS X371 hx (y := (⟨"com/example/fixlore/fixlore/lang/GraphBuilderSuspendPinLaw", "endIs", "(Lcom/example/fixlore/fixlore/lang/GraphBuilder$End;ILjava/lang/String;)Z"⟩ : MethodName)) hown340 (mvT hZ340 (hwk hw 252 rfl)) (mvT hZ340 (hwk hw 253 rfl)) (mvT hZ340 (hwk hw 254 rfl)) (mvT hZ340 (hwk hw 255 rfl)) (by decide) (backOf (W := 0) (rm29nb l Z a0 hw [] e_103 (0 : Int32) T362.heap n0 O364 c370 c372 c373) hZ340 (hwk hw 255 rfl) (hwk hw 254 rfl) (by decide) (by decide)) (g := (mkF m 179 #[.val (.int p0), .val (.int p1), .val (.int p2), .val (.int p3), .val (.int p4), .val (.int p5), .val (.ref b101), .val (.int (1 : Int32)), .val (.int (1 : Int32)), .val v335, .val v340, .val (.ref l_103), .val (.int (3 : Int32)), .unset, .unset, .unset] [.null, (.int (0 : Int32)), (.ref e_103)])) rfl (by rw [hml]; rfl) (argsL := [(.ref e_103), (.int (0 : Int32)), .null]) (rest := []) (lenOf pd_20 rfl) rfl (by show 2 * 0 + _ ≤ _; exact Nat.le_of_eq rfl) (hb hby at_179) (fun _ _ => ⟨rfl, e371, (by decide : 32 + 0 ≤ _), (by decide : 191 + 0 ≤ _)⟩)
      dsimp only [Pt.U, Pt.locs, Pt.cells, Pt.slots] at X374 l374 y374 z374 st374 hQ374
      subst l374 y374 z374
      unfold Q_rm29nb at hQ374
      obtain ⟨rfl, N374q, e374⟩ := hQ374
      have N374 := Fr.app N369 N374q
      obtain ⟨cq375, kq375, q375a, q375b, q375c⟩ := isOf hZ340 e374 c366
      obtain ⟨_, _, ⟨T375, L375, k375, n375⟩, -, X375, ⟨Lc375, hQ375, l375, y375, z375⟩, st375⟩ := X374.interfaceBack hx (xi := (⟨"java/util/List", "get", "(I)Ljava/lang/Object;"⟩ : MethodName)) (y := (⟨"java/util/ArrayList", "get", "(I)Ljava/lang/Object;"⟩ : MethodName)) hown340 (mvT hZ340 (hwk hw 229 rfl)) (mvT hZ340 (hwk hw 230 rfl)) (mvT hZ340 (hwk hw 231 rfl)) (mvT hZ340 (hwk hw 232 rfl)) (mvT hZ340 (hwk hw 233 rfl)) (mvT hZ340 (hwk hw 234 rfl)) (mvT hZ340 (hwk hw 235 rfl)) (mvT hZ340 (hwk hw 155 rfl)) (by decide) (backOf (W := 0) (rm25 l Z a0 hw [] l_103 (1 : Int32) (3 : Int32) t_103 k_103 ([(.ref e_103), (.ref e_353), (.ref e_357), .null, .null, .null, .null, .null, .null, .null]) e_353 T362.heap n0 O364 c366 c363 c367 c368 rfl (by decide) (by decide) (by decide)) hZ340 (hwk hw 236 rfl) (hwk hw 11 rfl) (by decide) (by decide)) q375a q375b q375c (g := (mkF m 199 #[.val (.int p0), .val (.int p1), .val (.int p2), .val (.int p3), .val (.int p4), .val (.int p5), .val (.ref b101), .val (.int (1 : Int32)), .val (.int (1 : Int32)), .val v335, .val v340, .val (.ref l_103), .val (.int (3 : Int32)), .val (.int (1 : Int32)), .unset, .unset] [(.int (1 : Int32)), (.ref l_103)])) rfl (by rw [hml]; rfl) (Steps.refl _) (argsL := [(.int (1 : Int32))]) (rest := []) (lenOf pd_11 rfl) rfl (by show 2 * 0 + _ ≤ _; exact Nat.le_of_eq rfl) (hb hby at_199) (fun _ _ => ⟨rfl, e374, (by decide : 32 + 0 ≤ _), (by decide : 191 + 0 ≤ _)⟩)
      dsimp only [Pt.U, Pt.locs, Pt.cells, Pt.slots] at X375 l375 y375 z375 st375 hQ375
      subst l375 y375 z375
      unfold Q_rm25 at hQ375
      obtain ⟨rfl, N375q, e375⟩ := hQ375
      have N375 := Fr.app N374 N375q
      have c376 : Exa Z T362.heap e_353 "com/example/fixlore/fixlore/lang/GraphBuilder$End" := (Exa.keep (Exa.keep f353_6 K357) K362)
      obtain ⟨T377, X377, e377, st377⟩ := castY X375 hx hZ340 hown340 (hwk hw 250 rfl) e375 (Ins.self c376) (g := (mkF m 204 #[.val (.int p0), .val (.int p1), .val (.int p2), .val (.int p3), .val (.int p4), .val (.int p5), .val (.ref b101), .val (.int (1 : Int32)), .val (.int (1 : Int32)), .val v335, .val v340, .val (.ref l_103), .val (.int (3 : Int32)), .val (.int (1 : Int32)), .unset, .unset] [(.ref e_353)])) rfl rfl (hb hby at_204)
      have c378 : Fld Z T362.heap e_353 "com/example/fixlore/fixlore/lang/GraphBuilder$End" "from" "I" (.int p3) := (Fld.keep (Fld.keep f353_7 K357 (ninS (ne_exa f353_6 f353_0 (by decide)) (ninS (Exa.neArv c376 c368 (hwk hw 206 rfl)) nin0))) K362 (ninS (ne_exa f353_6 c358 (by decide)) nin0))
      have c379 : Fld Z T362.heap e_353 "com/example/fixlore/fixlore/lang/GraphBuilder$End" "branch" "Ljava/lang/String;" v335 := (Fld.keep (Fld.keep f353_8 K357 (ninS (ne_exa f353_6 f353_0 (by decide)) (ninS (Exa.neArv c376 c368 (hwk hw 206 rfl)) nin0))) K362 (ninS (ne_exa f353_6 c358 (by decide)) nin0))
      have c380 : OptExa Z T362.heap v335 "java/lang/String" := (own_mkeep K362 (own_mkeep K357 (own_mkeep K353 (own_mkeep K340 Mj335))))
      obtain ⟨_, _, ⟨T381, L381, k381, n381⟩, -, X381, ⟨Lc381, hQ381, l381, y381, z381⟩, st381⟩ := Jvm.LawKit.callS X377 hx (y := (⟨"com/example/fixlore/fixlore/lang/GraphBuilderSuspendPinLaw", "endIs", "(Lcom/example/fixlore/fixlore/lang/GraphBuilder$End;ILjava/lang/String;)Z"⟩ : MethodName)) hown340 (mvT hZ340 (hwk hw 252 rfl)) (mvT hZ340 (hwk hw 253 rfl)) (mvT hZ340 (hwk hw 254 rfl)) (mvT hZ340 (hwk hw 255 rfl)) (by decide) (backOf (W := 0) (rm29 l Z a0 hw [] e_353 p3 v335 T362.heap n0 O364 c376 c378 c379 hv335 c380) hZ340 (hwk hw 255 rfl) (hwk hw 254 rfl) (by decide) (by decide)) (g := (mkF m 210 #[.val (.int p0), .val (.int p1), .val (.int p2), .val (.int p3), .val (.int p4), .val (.int p5), .val (.ref b101), .val (.int (1 : Int32)), .val (.int (1 : Int32)), .val v335, .val v340, .val (.ref l_103), .val (.int (3 : Int32)), .val (.int (1 : Int32)), .unset, .unset] [v335, (.int p3), (.ref e_353)])) rfl (by rw [hml]; rfl) (argsL := [(.ref e_353), (.int p3), v335]) (rest := []) (lenOf pd_20 rfl) rfl (by show 2 * 0 + _ ≤ _; exact Nat.le_of_eq rfl) (hb hby at_210) (fun _ _ => ⟨rfl, e377, (by decide : 32 + 0 ≤ _), (by decide : 191 + 0 ≤ _)⟩)
      dsimp only [Pt.U, Pt.locs, Pt.cells, Pt.slots] at X381 l381 y381 z381 st381 hQ381
      subst l381 y381 z381
      unfold Q_rm29 at hQ381
      obtain ⟨rfl, N381q, e381⟩ := hQ381
      have N381 := Fr.app N375 N381q
      obtain ⟨cq382, kq382, q382a, q382b, q382c⟩ := isOf hZ340 e381 c366
      obtain ⟨_, _, ⟨T382, L382, k382, n382⟩, -, X382, ⟨Lc382, hQ382, l382, y382, z382⟩, st382⟩ := X381.interfaceBack hx (xi := (⟨"java/util/List", "get", "(I)Ljava/lang/Object;"⟩ : MethodName)) (y := (⟨"java/util/ArrayList", "get", "(I)Ljava/lang/Object;"⟩ : MethodName)) hown340 (mvT hZ340 (hwk hw 229 rfl)) (mvT hZ340 (hwk hw 230 rfl)) (mvT hZ340 (hwk hw 231 rfl)) (mvT hZ340 (hwk hw 232 rfl)) (mvT hZ340 (hwk hw 233 rfl)) (mvT hZ340 (hwk hw 234 rfl)) (mvT hZ340 (hwk hw 235 rfl)) (mvT hZ340 (hwk hw 155 rfl)) (by decide) (backOf (W := 0) (rm25 l Z a0 hw [] l_103 (2 : Int32) (3 : Int32) t_103 k_103 ([(.ref e_103), (.ref e_353), (.ref e_357), .null, .null, .null, .null, .null, .null, .null]) e_357 T362.heap n0 O364 c366 c363 c367 c368 rfl (by decide) (by decide) (by decide)) hZ340 (hwk hw 236 rfl) (hwk hw 11 rfl) (by decide) (by decide)) q382a q382b q382c (g := (mkF m 230 #[.val (.int p0), .val (.int p1), .val (.int p2), .val (.int p3), .val (.int p4), .val (.int p5), .val (.ref b101), .val (.int (1 : Int32)), .val (.int (1 : Int32)), .val v335, .val v340, .val (.ref l_103), .val (.int (3 : Int32)), .val (.int (2 : Int32)), .unset, .unset] [(.int (2 : Int32)), (.ref l_103)])) rfl (by rw [hml]; rfl) (Steps.refl _) (argsL := [(.int (2 : Int32))]) (rest := []) (lenOf pd_11 rfl) rfl (by show 2 * 0 + _ ≤ _; exact Nat.le_of_eq rfl) (hb hby at_230) (fun _ _ => ⟨rfl, e381, (by decide : 32 + 0 ≤ _), (by decide : 191 + 0 ≤ _)⟩)
      dsimp only [Pt.U, Pt.locs, Pt.cells, Pt.slots] at X382 l382 y382 z382 st382 hQ382
      subst l382 y382 z382
      unfold Q_rm25 at hQ382
      obtain ⟨rfl, N382q, e382⟩ := hQ382
      have N382 := Fr.app N381 N382q
      have c383 : Exa Z T362.heap e_357 "com/example/fixlore/fixlore/lang/GraphBuilder$End" := (Exa.keep f357_6 K362)
      obtain ⟨T384, X384, e384, st384⟩ := castY X382 hx hZ340 hown340 (hwk hw 250 rfl) e382 (Ins.self c383) (g := (mkF m 235 #[.val (.int p0), .val (.int p1), .val (.int p2), .val (.int p3), .val (.int p4), .val (.int p5), .val (.ref b101), .val (.int (1 : Int32)), .val (.int (1 : Int32)), .val v335, .val v340, .val (.ref l_103), .val (.int (3 : Int32)), .val (.int (2 : Int32)), .unset, .unset] [(.ref e_357)])) rfl rfl (hb hby at_235)
      have c385 : Fld Z T362.heap e_357 "com/example/fixlore/fixlore/lang/GraphBuilder$End" "from" "I" (.int p4) := (Fld.keep f357_7 K362 (ninS (ne_exa f357_6 c359 (by decide)) nin0))
      have c386 : Fld Z T362.heap e_357 "com/example/fixlore/fixlore/lang/GraphBuilder$End" "branch" "Ljava/lang/String;" v340 := (Fld.keep f357_8 K362 (ninS (ne_exa f357_6 c359 (by decide)) nin0))
      have c387 : OptExa Z T362.heap v340 "java/lang/String" := (own_mkeep K362 (own_mkeep K357 (own_mkeep K353 Mj340)))
      obtain ⟨_, _, ⟨T388, L388, k388, n388⟩, -, X388, ⟨Lc388, hQ388, l388, y388, z388⟩, st388⟩ := Jvm.LawKit.callS X384 hx (y := (⟨"com/example/fixlore/fixlore/lang/GraphBuilderSuspendPinLaw", "endIs", "(Lcom/example/fixlore/fixlore/lang/GraphBuilder$End;ILjava/lang/String;)Z"⟩ : MethodName)) hown340 (mvT hZ340 (hwk hw 252 rfl)) (mvT hZ340 (hwk hw 253 rfl)) (mvT hZ340 (hwk hw 254 rfl)) (mvT hZ340 (hwk hw 255 rfl)) (by decide) (backOf (W := 0) (rm29 l Z a0 hw [] e_357 p4 v340 T362.heap n0 O364 c383 c385 c386 hv340 c387) hZ340 (hwk hw 255 rfl) (hwk hw 254 rfl) (by decide) (by decide)) (g := (mkF m 242 #[.val (.int p0), .val (.int p1), .val (.int p2), .val (.int p3), .val (.int p4), .val (.int p5), .val (.ref b101), .val (.int (1 : Int32)), .val (.int (1 : Int32)), .val v335, .val v340, .val (.ref l_103), .val (.int (3 : Int32)), .val (.int (2 : Int32)), .unset, .unset] [v340, (.int p4), (.ref e_357)])) rfl (by rw [hml]; rfl) (argsL := [(.ref e_357), (.int p4), v340]) (rest := []) (lenOf pd_20 rfl) rfl (by show 2 * 0 + _ ≤ _; exact Nat.le_of_eq rfl) (hb hby at_242) (fun _ _ => ⟨rfl, e384, (by decide : 32 + 0 ≤ _), (by decide : 191 + 0 ≤ _)⟩)
      dsimp only [Pt.U, Pt.locs, Pt.cells, Pt.slots] at X388 l388 y388 z388 st388 hQ388
      subst l388 y388 z388
      unfold Q_rm29 at hQ388
      obtain ⟨rfl, N388q, e388⟩ := hQ388
      have N388 := Fr.app N382 N388q
      obtain ⟨cq389, kq389, q389a, q389b, q389c⟩ := isOf hZ340 e388 f362_0
      obtain ⟨_, _, ⟨T389, L389, k389, n389⟩, -, X389, ⟨Lc389, hQ389, l389, y389, z389⟩, st389⟩ := X388.virtualBack hx (y := (⟨"com/example/fixlore/fixlore/lang/GraphBuilder", "suspend", "()Ljava/util/List;"⟩ : MethodName)) (z := (⟨"com/example/fixlore/fixlore/lang/GraphBuilder", "suspend", "()Ljava/util/List;"⟩ : MethodName)) hown340 (mvT hZ340 (hwk hw 223 rfl)) (mvT hZ340 (hwk hw 224 rfl)) (notFace_of_selects (args := #[]) (mvT hZ340 (hwk hw 226 rfl))) (mvT hZ340 (hwk hw 226 rfl)) (mvT hZ340 (hwk hw 225 rfl)) (by decide) (backOf (W := 0) (rm24 l Z a0 hw [] b101 l_362 wd T362.heap n0 O364 f362_0 g_b101 f362_1 SD) hZ340 (hwk hw 227 rfl) (hwk hw 2 rfl) (by decide) (by decide)) q389a q389c (g := (mkF m 252 #[.val (.int p0), .val (.int p1), .val (.int p2), .val (.int p3), .val (.int p4), .val (.int p5), .val (.ref b101), .val (.int (1 : Int32)), .val (.int (1 : Int32)), .val v335, .val v340, .val (.ref l_103), .val (.int (3 : Int32)), .val (.int (2 : Int32)), .unset, .unset] [(.ref b101)])) rfl (by rw [hml]; rfl) (Steps.refl _) (argsL := []) (rest := []) (lenOf pd_19 rfl) rfl (by show 2 * 0 + _ ≤ _; exact Nat.le_of_eq rfl) (hb hby at_252) (fun _ _ => ⟨rfl, e388, (by decide : 32 + 1 ≤ _), (by decide : 191 + 3 ≤ _)⟩)
      dsimp only [Pt.U, Pt.locs, Pt.cells, Pt.slots] at X389 l389 y389 z389 st389 hQ389
      subst l389 y389 z389
      unfold Q_rm24 at hQ389
      obtain ⟨l_389, rfl, N389q, K389, ge_l_389, f389_0, f389_1, f389_2, f389_3, f389_4, f389_5⟩ := hQ389
      have N389 := Fr.app N388 N389q
      have g_l_389 : n0 ≤ l_389 := Nat.le_trans (old_le O364) ge_l_389
      have c390 : Fld Z T389.heap l_362 "java/util/ArrayList" "size" "I" (.int (0 : Int32)) := (Fld.keep f362_4 K389 (ninS (ne_exa f362_2 f362_0 (by decide)) nin0))
      have O391 : Old Z n0 T389.heap := Old.keep O364 K389 (allS g_b101 all0)
      have c393 : Exa Z T389.heap l_362 "java/util/ArrayList" := (Exa.keep f362_2 K389)
      obtain ⟨cq392, kq392, q392a, q392b, q392c⟩ := isOf hZ340 (rfl : T389.heap = T389.heap) c393
      obtain ⟨_, _, ⟨T392, L392, k392, n392⟩, -, X392, ⟨Lc392, hQ392, l392, y392, z392⟩, st392⟩ := X389.interfaceBack hx (xi := (⟨"java/util/List", "size", "()I"⟩ : MethodName)) (y := (⟨"java/util/ArrayList", "size", "()I"⟩ : MethodName)) hown340 (mvT hZ340 (hwk hw 228 rfl)) (mvT hZ340 (hwk hw 183 rfl)) (mvT hZ340 (hwk hw 184 rfl)) (mvT hZ340 (hwk hw 185 rfl)) (mvT hZ340 (hwk hw 186 rfl)) (mvT hZ340 (hwk hw 187 rfl)) (mvT hZ340 (hwk hw 188 rfl)) (mvT hZ340 (hwk hw 155 rfl)) (by decide) (backOf (W := 0) (rm19 l Z a0 hw [] l_362 (0 : Int32) T389.heap n0 O391 c390) hZ340 (hwk hw 189 rfl) (hwk hw 11 rfl) (by decide) (by decide)) q392a q392b q392c (g := (mkF m 259 #[.val (.int p0), .val (.int p1), .val (.int p2), .val (.int p3), .val (.int p4), .val (.int p5), .val (.ref b101), .val (.int (1 : Int32)), .val (.int (1 : Int32)), .val v335, .val v340, .val (.ref l_103), .val (.int (3 : Int32)), .val (.int (2 : Int32)), .val (.ref l_362), .unset] [(.ref l_362)])) rfl (by rw [hml]; rfl) (Steps.refl _) (argsL := []) (rest := []) (lenOf pd_8 rfl) rfl (by show 2 * 0 + _ ≤ _; exact Nat.le_of_eq rfl) (hb hby at_259) (fun _ _ => ⟨rfl, (rfl : T389.heap = T389.heap), (by decide : 33 + 0 ≤ _), (by decide : 194 + 0 ≤ _)⟩)
      dsimp only [Pt.U, Pt.locs, Pt.cells, Pt.slots] at X392 l392 y392 z392 st392 hQ392
      subst l392 y392 z392
      unfold Q_rm19 at hQ392
      obtain ⟨rfl, N392q, e392⟩ := hQ392
      have N392 := Fr.app N389 N392q
      obtain ⟨cq394, kq394, q394a, q394b, q394c⟩ := isOf hZ340 e392 f389_0
      obtain ⟨_, _, ⟨T394, L394, k394, n394⟩, -, X394, ⟨Lc394, hQ394, l394, y394, z394⟩, st394⟩ := X392.virtualBack hx (y := (⟨"com/example/fixlore/fixlore/lang/GraphBuilder", "join", "(ILjava/lang/String;)V"⟩ : MethodName)) (z := (⟨"com/example/fixlore/fixlore/lang/GraphBuilder", "join", "(ILjava/lang/String;)V"⟩ : MethodName)) hown340 (mvT hZ340 (hwk hw 222 rfl)) (mvT hZ340 (hwk hw 201 rfl)) (notFace_of_selects (args := #[]) (mvT hZ340 (hwk hw 203 rfl))) (mvT hZ340 (hwk hw 203 rfl)) (mvT hZ340 (hwk hw 202 rfl)) (by decide) (backOf (W := 0) (rm21_0 l Z a0 hw [] b101 p4 v335 l_389 (0 : Int32) wd kd vd T389.heap n0 O391 f389_1 f389_2 f389_3 f389_4 f389_5 g_l_389 (ne_exa f389_0 f389_2 (by decide)) SD VD hv335) hZ340 (hwk hw 204 rfl) (hwk hw 2 rfl) (by decide) (by decide)) q394a q394c (g := (mkF m 275 #[.val (.int p0), .val (.int p1), .val (.int p2), .val (.int p3), .val (.int p4), .val (.int p5), .val (.ref b101), .val (.int (1 : Int32)), .val (.int (1 : Int32)), .val v335, .val v340, .val (.ref l_103), .val (.int (3 : Int32)), .val (.int (2 : Int32)), .val (.ref l_362), .unset] [v335, (.int p4), (.ref b101)])) rfl (by rw [hml]; rfl) (Steps.refl _) (argsL := [(.int p4), v335]) (rest := []) (lenOf pd_9 rfl) rfl (by show 2 * 0 + _ ≤ _; exact Nat.le_of_eq rfl) (hb hby at_275) (fun _ _ => ⟨rfl, e392, (by decide : 33 + 2 ≤ _), (by decide : 194 + 12 ≤ _)⟩)
      dsimp only [Pt.U, Pt.locs, Pt.cells, Pt.slots] at X394 l394 y394 z394 st394 hQ394
      subst l394 y394 z394
      unfold Q_rm21_0 at hQ394
      obtain ⟨e_394, t_394, k_394, rfl, N394q, K394, ge_e_394, ge_t_394, f394_0, f394_1, f394_2, f394_3, f394_4, f394_5, f394_6, f394_7, f394_8, f394_9⟩ := hQ394
      have N394 := Fr.app N392 N394q
      have g_e_394 : n0 ≤ e_394 := Nat.le_trans (old_le O391) ge_e_394
      have g_t_394 : n0 ≤ t_394 := Nat.le_trans (old_le O391) ge_t_394
      have c395 : Fld Z T394.heap l_103 "java/util/ArrayList" "size" "I" (.int (3 : Int32)) := (Fld.keep (Fld.keep c363 K389 (ninS (ne_exa f103_2 f103_0 (by decide)) nin0)) K394 (ninS (Nat.ne_of_lt (Nat.lt_of_lt_of_le (c366).lt ge_l_389)) nin0))
      have O396 : Old Z n0 T394.heap := Old.keep O391 K394 (allS g_l_389 all0)
      have c398 : Exa Z T394.heap l_103 "java/util/ArrayList" := (Exa.keep (Exa.keep c366 K389) K394)
      obtain ⟨cq397, kq397, q397a, q397b, q397c⟩ := isOf hZ340 (rfl : T394.heap = T394.heap) c398
      obtain ⟨_, _, ⟨T397, L397, k397, n397⟩, -, X397, ⟨Lc397, hQ397, l397, y397, z397⟩, st397⟩ := X394.interfaceBack hx (xi := (⟨"java/util/List", "size", "()I"⟩ : MethodName)) (y := (⟨"java/util/ArrayList", "size", "()I"⟩ : MethodName)) hown340 (mvT hZ340 (hwk hw 228 rfl)) (mvT hZ340 (hwk hw 183 rfl)) (mvT hZ340 (hwk hw 184 rfl)) (mvT hZ340 (hwk hw 185 rfl)) (mvT hZ340 (hwk hw 186 rfl)) (mvT hZ340 (hwk hw 187 rfl)) (mvT hZ340 (hwk hw 188 rfl)) (mvT hZ340 (hwk hw 155 rfl)) (by decide) (backOf (W := 0) (rm19 l Z a0 hw [] l_103 (3 : Int32) T394.heap n0 O396 c395) hZ340 (hwk hw 189 rfl) (hwk hw 11 rfl) (by decide) (by decide)) q397a q397b q397c (g := (mkF m 280 #[.val (.int p0), .val (.int p1), .val (.int p2), .val (.int p3), .val (.int p4), .val (.int p5), .val (.ref b101), .val (.int (1 : Int32)), .val (.int (1 : Int32)), .val v335, .val v340, .val (.ref l_103), .val (.int (3 : Int32)), .val (.int (2 : Int32)), .val (.ref l_362), .unset] [(.ref l_103)])) rfl (by rw [hml]; rfl) (Steps.refl _) (argsL := []) (rest := []) (lenOf pd_8 rfl) rfl (by show 2 * 0 + _ ≤ _; exact Nat.le_of_eq rfl) (hb hby at_280) (fun _ _ => ⟨rfl, (rfl : T394.heap = T394.heap), (by decide : 35 + 0 ≤ _), (by decide : 206 + 0 ≤ _)⟩)
      dsimp only [Pt.U, Pt.locs, Pt.cells, Pt.slots] at X397 l397 y397 z397 st397 hQ397
      subst l397 y397 z397
      unfold Q_rm19 at hQ397
      obtain ⟨rfl, N397q, e397⟩ := hQ397
      have N397 := Fr.app N394 N397q
      have c399 : Exa Z T394.heap b101 "com/example/fixlore/fixlore/lang/GraphBuilder" := (Exa.keep f389_0 K394)
      have c400 : Fld Z T394.heap b101 "com/example/fixlore/fixlore/lang/GraphBuilder" "pending" "Ljava/util/List;" (.ref l_389) := (Fld.keep f389_1 K394 (ninS (ne_exa f389_0 f389_2 (by decide)) nin0))
      obtain ⟨cq401, kq401, q401a, q401b, q401c⟩ := isOf hZ340 e397 c399
      obtain ⟨_, _, ⟨T401, L401, k401, n401⟩, -, X401, ⟨Lc401, hQ401, l401, y401, z401⟩, st401⟩ := X397.virtualBack hx (y := (⟨"com/example/fixlore/fixlore/lang/GraphBuilder", "suspend", "()Ljava/util/List;"⟩ : MethodName)) (z := (⟨"com/example/fixlore/fixlore/lang/GraphBuilder", "suspend", "()Ljava/util/List;"⟩ : MethodName)) hown340 (mvT hZ340 (hwk hw 223 rfl)) (mvT hZ340 (hwk hw 224 rfl)) (notFace_of_selects (args := #[]) (mvT hZ340 (hwk hw 226 rfl))) (mvT hZ340 (hwk hw 226 rfl)) (mvT hZ340 (hwk hw 225 rfl)) (by decide) (backOf (W := 0) (rm24 l Z a0 hw [] b101 l_389 wd T394.heap n0 O396 c399 g_b101 c400 SD) hZ340 (hwk hw 227 rfl) (hwk hw 2 rfl) (by decide) (by decide)) q401a q401c (g := (mkF m 294 #[.val (.int p0), .val (.int p1), .val (.int p2), .val (.int p3), .val (.int p4), .val (.int p5), .val (.ref b101), .val (.int (1 : Int32)), .val (.int (1 : Int32)), .val v335, .val v340, .val (.ref l_103), .val (.int (3 : Int32)), .val (.int (2 : Int32)), .val (.ref l_362), .unset] [(.ref b101)])) rfl (by rw [hml]; rfl) (Steps.refl _) (argsL := []) (rest := []) (lenOf pd_19 rfl) rfl (by show 2 * 0 + _ ≤ _; exact Nat.le_of_eq rfl) (hb hby at_294) (fun _ _ => ⟨rfl, e397, (by decide : 35 + 1 ≤ _), (by decide : 206 + 3 ≤ _)⟩)
      dsimp only [Pt.U, Pt.locs, Pt.cells, Pt.slots] at X401 l401 y401 z401 st401 hQ401
      subst l401 y401 z401
      unfold Q_rm24 at hQ401
      obtain ⟨l_401, rfl, N401q, K401, ge_l_401, f401_0, f401_1, f401_2, f401_3, f401_4, f401_5⟩ := hQ401
      have N401 := Fr.app N397 N401q
      have g_l_401 : n0 ≤ l_401 := Nat.le_trans (old_le O396) ge_l_401
      have c402 : Fld Z T401.heap l_389 "java/util/ArrayList" "size" "I" (.int (1 : Int32)) := (Fld.keep f394_2 K401 (ninS (ne_exa f389_2 f389_0 (by decide)) nin0))
      have O403 : Old Z n0 T401.heap := Old.keep O396 K401 (allS g_b101 all0)
      have c405 : Exa Z T401.heap l_389 "java/util/ArrayList" := (Exa.keep f394_0 K401)
      obtain ⟨cq404, kq404, q404a, q404b, q404c⟩ := isOf hZ340 (rfl : T401.heap = T401.heap) c405
      obtain ⟨_, _, ⟨T404, L404, k404, n404⟩, -, X404, ⟨Lc404, hQ404, l404, y404, z404⟩, st404⟩ := X401.interfaceBack hx (xi := (⟨"java/util/List", "size", "()I"⟩ : MethodName)) (y := (⟨"java/util/ArrayList", "size", "()I"⟩ : MethodName)) hown340 (mvT hZ340 (hwk hw 228 rfl)) (mvT hZ340 (hwk hw 183 rfl)) (mvT hZ340 (hwk hw 184 rfl)) (mvT hZ340 (hwk hw 185 rfl)) (mvT hZ340 (hwk hw 186 rfl)) (mvT hZ340 (hwk hw 187 rfl)) (mvT hZ340 (hwk hw 188 rfl)) (mvT hZ340 (hwk hw 155 rfl)) (by decide) (backOf (W := 0) (rm19 l Z a0 hw [] l_389 (1 : Int32) T401.heap n0 O403 c402) hZ340 (hwk hw 189 rfl) (hwk hw 11 rfl) (by decide) (by decide)) q404a q404b q404c (g := (mkF m 301 #[.val (.int p0), .val (.int p1), .val (.int p2), .val (.int p3), .val (.int p4), .val (.int p5), .val (.ref b101), .val (.int (1 : Int32)), .val (.int (1 : Int32)), .val v335, .val v340, .val (.ref l_103), .val (.int (3 : Int32)), .val (.int (2 : Int32)), .val (.ref l_362), .val (.ref l_389)] [(.ref l_389)])) rfl (by rw [hml]; rfl) (Steps.refl _) (argsL := []) (rest := []) (lenOf pd_8 rfl) rfl (by show 2 * 0 + _ ≤ _; exact Nat.le_of_eq rfl) (hb hby at_301) (fun _ _ => ⟨rfl, (rfl : T401.heap = T401.heap), (by decide : 36 + 0 ≤ _), (by decide : 209 + 0 ≤ _)⟩)
      dsimp only [Pt.U, Pt.locs, Pt.cells, Pt.slots] at X404 l404 y404 z404 st404 hQ404
      subst l404 y404 z404
      unfold Q_rm19 at hQ404
      obtain ⟨rfl, N404q, e404⟩ := hQ404
      have N404 := Fr.app N401 N404q
      have c406 : Fld Z T401.heap l_389 "java/util/ArrayList" "elementData" "[Ljava/lang/Object;" (.ref t_394) := (Fld.keep f394_1 K401 (ninS (ne_exa f389_2 f389_0 (by decide)) nin0))
      have c407 : Arv Z T401.heap t_394 k_394 (.object "java/lang/Object") (10 : Int32) [(.ref e_394), .null, .null, .null, .null, .null, .null, .null, .null, .null] .null := (Arv.keep f394_4 K401 (ninS (Ne.symm (Exa.neArv c399 f394_4 (hwk hw 1 rfl))) nin0))
      obtain ⟨cq408, kq408, q408a, q408b, q408c⟩ := isOf hZ340 e404 c405
      obtain ⟨_, _, ⟨T408, L408, k408, n408⟩, -, X408, ⟨Lc408, hQ408, l408, y408, z408⟩, st408⟩ := X404.interfaceBack hx (xi := (⟨"java/util/List", "get", "(I)Ljava/lang/Object;"⟩ : MethodName)) (y := (⟨"java/util/ArrayList", "get", "(I)Ljava/lang/Object;"⟩ : MethodName)) hown340 (mvT hZ340 (hwk hw 229 rfl)) (mvT hZ340 (hwk hw 230 rfl)) (mvT hZ340 (hwk hw 231 rfl)) (mvT hZ340 (hwk hw 232 rfl)) (mvT hZ340 (hwk hw 233 rfl)) (mvT hZ340 (hwk hw 234 rfl)) (mvT hZ340 (hwk hw 235 rfl)) (mvT hZ340 (hwk hw 155 rfl)) (by decide) (backOf (W := 0) (rm25 l Z a0 hw [] l_389 (0 : Int32) (1 : Int32) t_394 k_394 ([(.ref e_394), .null, .null, .null, .null, .null, .null, .null, .null, .null]) e_394 T401.heap n0 O403 c405 c402 c406 c407 rfl (by decide) (by decide) (by decide)) hZ340 (hwk hw 236 rfl) (hwk hw 11 rfl) (by decide) (by decide)) q408a q408b q408c (g := (mkF m 313 #[.val (.int p0), .val (.int p1), .val (.int p2), .val (.int p3), .val (.int p4), .val (.int p5), .val (.ref b101), .val (.int (1 : Int32)), .val (.int (1 : Int32)), .val v335, .val v340, .val (.ref l_103), .val (.int (3 : Int32)), .val (.int (2 : Int32)), .val (.ref l_362), .val (.ref l_389)] [(.int (0 : Int32)), (.ref l_389)])) rfl (by rw [hml]; rfl) (Steps.refl _) (argsL := [(.int (0 : Int32))]) (rest := []) (lenOf pd_11 rfl) rfl (by show 2 * 0 + _ ≤ _; exact Nat.le_of_eq rfl) (hb hby at_313) (fun _ _ => ⟨rfl, e404, (by decide : 36 + 0 ≤ _), (by decide : 209 + 0 ≤ _)⟩)
      dsimp only [Pt.U, Pt.locs, Pt.cells, Pt.slots] at X408 l408 y408 z408 st408 hQ408
      subst l408 y408 z408
      unfold Q_rm25 at hQ408
      obtain ⟨rfl, N408q, e408⟩ := hQ408
      have N408 := Fr.app N404 N408q
      have c409 : Exa Z T401.heap e_394 "com/example/fixlore/fixlore/lang/GraphBuilder$End" := (Exa.keep f394_6 K401)
      obtain ⟨T410, X410, e410, st410⟩ := castY X408 hx hZ340 hown340 (hwk hw 250 rfl) e408 (Ins.self c409) (g := (mkF m 318 #[.val (.int p0), .val (.int p1), .val (.int p2), .val (.int p3), .val (.int p4), .val (.int p5), .val (.ref b101), .val (.int (1 : Int32)), .val (.int (1 : Int32)), .val v335, .val v340, .val (.ref l_103), .val (.int (3 : Int32)), .val (.int (2 : Int32)), .val (.ref l_362), .val (.ref l_389)] [(.ref e_394)])) rfl rfl (hb hby at_318)
      have c411 : Fld Z T401.heap e_394 "com/example/fixlore/fixlore/lang/GraphBuilder$End" "from" "I" (.int p4) := (Fld.keep f394_7 K401 (ninS (ne_exa f394_6 c399 (by decide)) nin0))
      have c412 : Fld Z T401.heap e_394 "com/example/fixlore/fixlore/lang/GraphBuilder$End" "branch" "Ljava/lang/String;" v335 := (Fld.keep f394_8 K401 (ninS (ne_exa f394_6 c399 (by decide)) nin0))
      have c413 : OptExa Z T401.heap v335 "java/lang/String" := (own_mkeep K401 (own_mkeep K394 (own_mkeep K389 c380)))
      obtain ⟨_, _, ⟨T414, L414, k414, n414⟩, -, X414, ⟨Lc414, hQ414, l414, y414, z414⟩, st414⟩ := Jvm.LawKit.callS X410 hx (y := (⟨"com/example/fixlore/fixlore/lang/GraphBuilderSuspendPinLaw", "endIs", "(Lcom/example/fixlore/fixlore/lang/GraphBuilder$End;ILjava/lang/String;)Z"⟩ : MethodName)) hown340 (mvT hZ340 (hwk hw 252 rfl)) (mvT hZ340 (hwk hw 253 rfl)) (mvT hZ340 (hwk hw 254 rfl)) (mvT hZ340 (hwk hw 255 rfl)) (by decide) (backOf (W := 0) (rm29 l Z a0 hw [] e_394 p4 v335 T401.heap n0 O403 c409 c411 c412 hv335 c413) hZ340 (hwk hw 255 rfl) (hwk hw 254 rfl) (by decide) (by decide)) (g := (mkF m 325 #[.val (.int p0), .val (.int p1), .val (.int p2), .val (.int p3), .val (.int p4), .val (.int p5), .val (.ref b101), .val (.int (1 : Int32)), .val (.int (1 : Int32)), .val v335, .val v340, .val (.ref l_103), .val (.int (3 : Int32)), .val (.int (2 : Int32)), .val (.ref l_362), .val (.ref l_389)] [v335, (.int p4), (.ref e_394)])) rfl (by rw [hml]; rfl) (argsL := [(.ref e_394), (.int p4), v335]) (rest := []) (lenOf pd_20 rfl) rfl (by show 2 * 0 + _ ≤ _; exact Nat.le_of_eq rfl) (hb hby at_325) (fun _ _ => ⟨rfl, e410, (by decide : 36 + 0 ≤ _), (by decide : 209 + 0 ≤ _)⟩)
      dsimp only [Pt.U, Pt.locs, Pt.cells, Pt.slots] at X414 l414 y414 z414 st414 hQ414
      subst l414 y414 z414
      unfold Q_rm29 at hQ414
      obtain ⟨rfl, N414q, e414⟩ := hQ414
      have N414 := Fr.app N408 N414q
      have K415 : Keep h0 h101 [] := Keep.ext (Keep.refl h0 []) E101
      have K416 : Keep h0 T103.heap [] := Keep.trans K415 K103 (allS (Or.inr (Nat.le_trans (Nat.le_refl _) (Nat.le_of_eq g101.symm))) all0)
      have K417 : Keep h0 h335 [] := Keep.trans K416 K335 all0
      have K418 : Keep h0 h340 [] := Keep.trans K417 K340 all0
      have K419 : Keep h0 T353.heap [] := Keep.trans K418 K353 (allS (Or.inr (Nat.le_trans (Nat.le_trans (Nat.le_refl _) E101.1) ge_l_103)) (allS (Or.inr (Nat.le_trans (Nat.le_trans (Nat.le_refl _) E101.1) ge_t_103)) all0))
      have K420 : Keep h0 T357.heap [] := Keep.trans K419 K357 (allS (Or.inr (Nat.le_trans (Nat.le_trans (Nat.le_refl _) E101.1) ge_l_103)) (allS (Or.inr (Nat.le_trans (Nat.le_trans (Nat.le_refl _) E101.1) ge_t_103)) all0))
      have K421 : Keep h0 T362.heap [] := Keep.trans K420 K362 (allS (Or.inr (Nat.le_trans (Nat.le_refl _) (Nat.le_of_eq g101.symm))) all0)
      have K422 : Keep h0 T389.heap [] := Keep.trans K421 K389 (allS (Or.inr (Nat.le_trans (Nat.le_refl _) (Nat.le_of_eq g101.symm))) all0)
      have K423 : Keep h0 T394.heap [] := Keep.trans K422 K394 (allS (Or.inr (Nat.le_trans (Nat.le_trans (Nat.le_trans (Nat.le_trans (Nat.le_trans (Nat.le_trans (Nat.le_trans (Nat.le_trans (Nat.le_refl _) E101.1) K103.1) K335.1) K340.1) K353.1) K357.1) K362.1) ge_l_389)) all0)
      have K424 : Keep h0 T401.heap [] := Keep.trans K423 K401 (allS (Or.inr (Nat.le_trans (Nat.le_refl _) (Nat.le_of_eq g101.symm))) all0)
      obtain ⟨fs, hr, hrun, hended, hRE⟩ := X414.leaveW hS340 (show _ ≤ T414.heap.size from by rw [e414]; exact (Nat.le_trans hk340 (Nat.le_trans (Nat.le_trans (Nat.le_trans (Nat.le_trans (Nat.le_trans (Nat.le_trans (Nat.le_refl _) K353.1) K357.1) K362.1) K389.1) K394.1) K401.1))) (v := some (.int (1 : Int32))) (fun h => by rw [Bd.returns] at h; cases h)
      refine ⟨_, _, S340 _ ?_, hrun, hended, _, _, rfl, ?_, hRE.1, hRE.2.1, hRE.2.2.1, hRE.2.2.2.mono (by decide) (by decide)⟩
      · show Steps p.tables e below (T340.setTop (mkF m 91 #[.val (.int p0), .val (.int p1), .val (.int p2), .val (.int p3), .val (.int p4), .val (.int p5), .val (.ref b101), .val (.int (1 : Int32)), .val (.int (1 : Int32)), .val v335, .unset, .unset, .unset, .unset, .unset, .unset] [v340])) _
        refine XS.astore X340.here hx rfl (hb hby at_91) rfl hv340 (l' := #[.val (.int p0), .val (.int p1), .val (.int p2), .val (.int p3), .val (.int p4), .val (.int p5), .val (.ref b101), .val (.int (1 : Int32)), .val (.int (1 : Int32)), .val v335, .val v340, .unset, .unset, .unset, .unset, .unset]) (XS.store1 (o := .unset) rfl (Or.inl rfl) (XT.cat1 hv340)) ?_
        show Steps p.tables e below (T340.setTop (mkF m 93 #[.val (.int p0), .val (.int p1), .val (.int p2), .val (.int p3), .val (.int p4), .val (.int p5), .val (.ref b101), .val (.int (1 : Int32)), .val (.int (1 : Int32)), .val v335, .val v340, .unset, .unset, .unset, .unset, .unset] [])) _
        refine XS.iload X340.here hx rfl (hb hby at_93) rfl ?_
        refine XS.ifNo X340.here hx rfl (hb hby at_95) rfl ((if0 _ _).trans (feq (by decide : ¬ ((1 : Int32) = (0 : Int32)))).1) ?_
        show Steps p.tables e below (T340.setTop (mkF m 98 #[.val (.int p0), .val (.int p1), .val (.int p2), .val (.int p3), .val (.int p4), .val (.int p5), .val (.ref b101), .val (.int (1 : Int32)), .val (.int (1 : Int32)), .val v335, .val v340, .unset, .unset, .unset, .unset, .unset] [])) _
        refine XS.aload X340.here hx rfl (hb hby at_98) rfl rfl ?_
        refine XS.iloadN X340.here hx rfl (hb hby at_100) rfl ?_
        refine XS.aload X340.here hx rfl (hb hby at_101) rfl hv335 ?_
        show Steps p.tables e below (T340.setTop (mkF m 103 #[.val (.int p0), .val (.int p1), .val (.int p2), .val (.int p3), .val (.int p4), .val (.int p5), .val (.ref b101), .val (.int (1 : Int32)), .val (.int (1 : Int32)), .val v335, .val v340, .unset, .unset, .unset, .unset, .unset] [v335, (.int p3), (.ref b101)])) _
        refine st353.trans ?_
        show Steps p.tables e below (T353.setTop (mkF m 106 #[.val (.int p0), .val (.int p1), .val (.int p2), .val (.int p3), .val (.int p4), .val (.int p5), .val (.ref b101), .val (.int (1 : Int32)), .val (.int (1 : Int32)), .val v335, .val v340, .unset, .unset, .unset, .unset, .unset] [])) _
        refine XS.iload X353.here hx rfl (hb hby at_106) rfl ?_
        refine XS.ifNo X353.here hx rfl (hb hby at_108) rfl ((if0 _ _).trans (feq (by decide : ¬ ((1 : Int32) = (0 : Int32)))).1) ?_
        show Steps p.tables e below (T353.setTop (mkF m 111 #[.val (.int p0), .val (.int p1), .val (.int p2), .val (.int p3), .val (.int p4), .val (.int p5), .val (.ref b101), .val (.int (1 : Int32)), .val (.int (1 : Int32)), .val v335, .val v340, .unset, .unset, .unset, .unset, .unset] [])) _
        refine XS.aload X353.here hx rfl (hb hby at_111) rfl rfl ?_
        refine XS.iload X353.here hx rfl (hb hby at_113) rfl ?_
        refine XS.aload X353.here hx rfl (hb hby at_115) rfl hv340 ?_
        show Steps p.tables e below (T353.setTop (mkF m 117 #[.val (.int p0), .val (.int p1), .val (.int p2), .val (.int p3), .val (.int p4), .val (.int p5), .val (.ref b101), .val (.int (1 : Int32)), .val (.int (1 : Int32)), .val v335, .val v340, .unset, .unset, .unset, .unset, .unset] [v340, (.int p4), (.ref b101)])) _
        refine st357.trans ?_
        show Steps p.tables e below (T357.setTop (mkF m 120 #[.val (.int p0), .val (.int p1), .val (.int p2), .val (.int p3), .val (.int p4), .val (.int p5), .val (.ref b101), .val (.int (1 : Int32)), .val (.int (1 : Int32)), .val v335, .val v340, .unset, .unset, .unset, .unset, .unset] [])) _
        refine XS.aload X357.here hx rfl (hb hby at_120) rfl rfl ?_
        show Steps p.tables e below (T357.setTop (mkF m 122 #[.val (.int p0), .val (.int p1), .val (.int p2), .val (.int p3), .val (.int p4), .val (.int p5), .val (.ref b101), .val (.int (1 : Int32)), .val (.int (1 : Int32)), .val v335, .val v340, .unset, .unset, .unset, .unset, .unset] [(.ref b101)])) _
        refine st362.trans ?_
        show Steps p.tables e below (T362.setTop (mkF m 125 #[.val (.int p0), .val (.int p1), .val (.int p2), .val (.int p3), .val (.int p4), .val (.int p5), .val (.ref b101), .val (.int (1 : Int32)), .val (.int (1 : Int32)), .val v335, .val v340, .unset, .unset, .unset, .unset, .unset] [(.ref l_103)])) _
        refine XS.astore X362.here hx rfl (hb hby at_125) rfl rfl (l' := #[.val (.int p0), .val (.int p1), .val (.int p2), .val (.int p3), .val (.int p4), .val (.int p5), .val (.ref b101), .val (.int (1 : Int32)), .val (.int (1 : Int32)), .val v335, .val v340, .val (.ref l_103), .unset, .unset, .unset, .unset]) rfl ?_
        show Steps p.tables e below (T362.setTop (mkF m 127 #[.val (.int p0), .val (.int p1), .val (.int p2), .val (.int p3), .val (.int p4), .val (.int p5), .val (.ref b101), .val (.int (1 : Int32)), .val (.int (1 : Int32)), .val v335, .val v340, .val (.ref l_103), .unset, .unset, .unset, .unset] [])) _
        refine XS.iconst X362.here hx rfl (hb hby at_127) ?_
        refine XS.iload X362.here hx rfl (hb hby at_128) rfl ?_
        refine XS.ifNo X362.here hx rfl (hb hby at_130) rfl ((if0 _ _).trans (feq (by decide : ¬ ((1 : Int32) = (0 : Int32)))).1) ?_
        show Steps p.tables e below (T362.setTop (mkF m 133 #[.val (.int p0), .val (.int p1), .val (.int p2), .val (.int p3), .val (.int p4), .val (.int p5), .val (.ref b101), .val (.int (1 : Int32)), .val (.int (1 : Int32)), .val v335, .val v340, .val (.ref l_103), .unset, .unset, .unset, .unset] [(.int (1 : Int32))])) _
        refine XS.iconst X362.here hx rfl (hb hby at_133) ?_
        refine XS.goto X362.here hx rfl (pc0 := 134) (pc' := 138) rfl (hb hby at_134) (by decide) (by decide) ?_
        show Steps p.tables e below (T362.setTop (mkF m 138 #[.val (.int p0), .val (.int p1), .val (.int p2), .val (.int p3), .val (.int p4), .val (.int p5), .val (.ref b101), .val (.int (1 : Int32)), .val (.int (1 : Int32)), .val v335, .val v340, .val (.ref l_103), .unset, .unset, .unset, .unset] [(.int (1 : Int32)), (.int (1 : Int32))])) _
        refine XS.iadd X362.here hx rfl (hb hby at_138) rfl ?_
        show Steps p.tables e below (T362.setTop (mkF m 139 #[.val (.int p0), .val (.int p1), .val (.int p2), .val (.int p3), .val (.int p4), .val (.int p5), .val (.ref b101), .val (.int (1 : Int32)), .val (.int (1 : Int32)), .val v335, .val v340, .val (.ref l_103), .unset, .unset, .unset, .unset] [(.int ((1 : Int32) + (1 : Int32)))])) _
        rw [show ((1 : Int32) + (1 : Int32)) = (2 : Int32) from by decide]
        show Steps p.tables e below (T362.setTop (mkF m 139 #[.val (.int p0), .val (.int p1), .val (.int p2), .val (.int p3), .val (.int p4), .val (.int p5), .val (.ref b101), .val (.int (1 : Int32)), .val (.int (1 : Int32)), .val v335, .val v340, .val (.ref l_103), .unset, .unset, .unset, .unset] [(.int (2 : Int32))])) _
        refine XS.iload X362.here hx rfl (hb hby at_139) rfl ?_
        refine XS.ifNo X362.here hx rfl (hb hby at_141) rfl ((if0 _ _).trans (feq (by decide : ¬ ((1 : Int32) = (0 : Int32)))).1) ?_
        show Steps p.tables e below (T362.setTop (mkF m 144 #[.val (.int p0), .val (.int p1), .val (.int p2), .val (.int p3), .val (.int p4), .val (.int p5), .val (.ref b101), .val (.int (1 : Int32)), .val (.int (1 : Int32)), .val v335, .val v340, .val (.ref l_103), .unset, .unset, .unset, .unset] [(.int (2 : Int32))])) _
        refine XS.iconst X362.here hx rfl (hb hby at_144) ?_
        refine XS.goto X362.here hx rfl (pc0 := 145) (pc' := 149) rfl (hb hby at_145) (by decide) (by decide) ?_
        show Steps p.tables e below (T362.setTop (mkF m 149 #[.val (.int p0), .val (.int p1), .val (.int p2), .val (.int p3), .val (.int p4), .val (.int p5), .val (.ref b101), .val (.int (1 : Int32)), .val (.int (1 : Int32)), .val v335, .val v340, .val (.ref l_103), .unset, .unset, .unset, .unset] [(.int (1 : Int32)), (.int (2 : Int32))])) _
        refine XS.iadd X362.here hx rfl (hb hby at_149) rfl ?_
        show Steps p.tables e below (T362.setTop (mkF m 150 #[.val (.int p0), .val (.int p1), .val (.int p2), .val (.int p3), .val (.int p4), .val (.int p5), .val (.ref b101), .val (.int (1 : Int32)), .val (.int (1 : Int32)), .val v335, .val v340, .val (.ref l_103), .unset, .unset, .unset, .unset] [(.int ((2 : Int32) + (1 : Int32)))])) _
        rw [show ((2 : Int32) + (1 : Int32)) = (3 : Int32) from by decide]
        show Steps p.tables e below (T362.setTop (mkF m 150 #[.val (.int p0), .val (.int p1), .val (.int p2), .val (.int p3), .val (.int p4), .val (.int p5), .val (.ref b101), .val (.int (1 : Int32)), .val (.int (1 : Int32)), .val v335, .val v340, .val (.ref l_103), .unset, .unset, .unset, .unset] [(.int (3 : Int32))])) _
        refine XS.istore X362.here hx rfl (hb hby at_150) rfl (l' := #[.val (.int p0), .val (.int p1), .val (.int p2), .val (.int p3), .val (.int p4), .val (.int p5), .val (.ref b101), .val (.int (1 : Int32)), .val (.int (1 : Int32)), .val v335, .val v340, .val (.ref l_103), .val (.int (3 : Int32)), .unset, .unset, .unset]) rfl ?_
        show Steps p.tables e below (T362.setTop (mkF m 152 #[.val (.int p0), .val (.int p1), .val (.int p2), .val (.int p3), .val (.int p4), .val (.int p5), .val (.ref b101), .val (.int (1 : Int32)), .val (.int (1 : Int32)), .val v335, .val v340, .val (.ref l_103), .val (.int (3 : Int32)), .unset, .unset, .unset] [])) _
        refine XS.aload X362.here hx rfl (hb hby at_152) rfl rfl ?_
        show Steps p.tables e below (T362.setTop (mkF m 154 #[.val (.int p0), .val (.int p1), .val (.int p2), .val (.int p3), .val (.int p4), .val (.int p5), .val (.ref b101), .val (.int (1 : Int32)), .val (.int (1 : Int32)), .val v335, .val v340, .val (.ref l_103), .val (.int (3 : Int32)), .unset, .unset, .unset] [(.ref l_103)])) _
        refine st365.trans ?_
        show Steps p.tables e below (T365.setTop (mkF m 159 #[.val (.int p0), .val (.int p1), .val (.int p2), .val (.int p3), .val (.int p4), .val (.int p5), .val (.ref b101), .val (.int (1 : Int32)), .val (.int (1 : Int32)), .val v335, .val v340, .val (.ref l_103), .val (.int (3 : Int32)), .unset, .unset, .unset] [(.int (3 : Int32))])) _
        refine XS.iload X365.here hx rfl (hb hby at_159) rfl ?_
        refine XS.icmpYes X365.here hx rfl (pc0 := 161) (pc' := 166) rfl (hb hby at_161) rfl (teq (by decide : (3 : Int32) = (3 : Int32))).1 (by decide) (by decide) ?_
        show Steps p.tables e below (T365.setTop (mkF m 166 #[.val (.int p0), .val (.int p1), .val (.int p2), .val (.int p3), .val (.int p4), .val (.int p5), .val (.ref b101), .val (.int (1 : Int32)), .val (.int (1 : Int32)), .val v335, .val v340, .val (.ref l_103), .val (.int (3 : Int32)), .unset, .unset, .unset] [])) _
        refine XS.aload X365.here hx rfl (hb hby at_166) rfl rfl ?_
        refine XS.iconst X365.here hx rfl (hb hby at_168) ?_
        show Steps p.tables e below (T365.setTop (mkF m 169 #[.val (.int p0), .val (.int p1), .val (.int p2), .val (.int p3), .val (.int p4), .val (.int p5), .val (.ref b101), .val (.int (1 : Int32)), .val (.int (1 : Int32)), .val v335, .val v340, .val (.ref l_103), .val (.int (3 : Int32)), .unset, .unset, .unset] [(.int (0 : Int32)), (.ref l_103)])) _
        refine st369.trans ?_
        show Steps p.tables e below (T369.setTop (mkF m 174 #[.val (.int p0), .val (.int p1), .val (.int p2), .val (.int p3), .val (.int p4), .val (.int p5), .val (.ref b101), .val (.int (1 : Int32)), .val (.int (1 : Int32)), .val v335, .val v340, .val (.ref l_103), .val (.int (3 : Int32)), .unset, .unset, .unset] [(.ref e_103)])) _
        refine st371 _ ?_
        show Steps p.tables e below (T371.setTop (mkF m 177 #[.val (.int p0), .val (.int p1), .val (.int p2), .val (.int p3), .val (.int p4), .val (.int p5), .val (.ref b101), .val (.int (1 : Int32)), .val (.int (1 : Int32)), .val v335, .val v340, .val (.ref l_103), .val (.int (3 : Int32)), .unset, .unset, .unset] [(.ref e_103)])) _
        refine XS.iconst X371.here hx rfl (hb hby at_177) ?_
        refine XS.aconstNull X371.here hx rfl (hb hby at_178) ?_
        show Steps p.tables e below (T371.setTop (mkF m 179 #[.val (.int p0), .val (.int p1), .val (.int p2), .val (.int p3), .val (.int p4), .val (.int p5), .val (.ref b101), .val (.int (1 : Int32)), .val (.int (1 : Int32)), .val v335, .val v340, .val (.ref l_103), .val (.int (3 : Int32)), .unset, .unset, .unset] [.null, (.int (0 : Int32)), (.ref e_103)])) _
        refine st374 _ ?_
        show Steps p.tables e below (T374.setTop (mkF m 182 #[.val (.int p0), .val (.int p1), .val (.int p2), .val (.int p3), .val (.int p4), .val (.int p5), .val (.ref b101), .val (.int (1 : Int32)), .val (.int (1 : Int32)), .val v335, .val v340, .val (.ref l_103), .val (.int (3 : Int32)), .unset, .unset, .unset] [(.int (1 : Int32))])) _
        refine XS.ifYes X374.here hx rfl (pc0 := 182) (pc' := 187) rfl (hb hby at_182) rfl ((if0 _ _).trans (feq (by decide : ¬ ((1 : Int32) = (0 : Int32)))).2) (by decide) (by decide) ?_
        show Steps p.tables e below (T374.setTop (mkF m 187 #[.val (.int p0), .val (.int p1), .val (.int p2), .val (.int p3), .val (.int p4), .val (.int p5), .val (.ref b101), .val (.int (1 : Int32)), .val (.int (1 : Int32)), .val v335, .val v340, .val (.ref l_103), .val (.int (3 : Int32)), .unset, .unset, .unset] [])) _
        refine XS.iconst X374.here hx rfl (hb hby at_187) ?_
        refine XS.istore X374.here hx rfl (hb hby at_188) rfl (l' := #[.val (.int p0), .val (.int p1), .val (.int p2), .val (.int p3), .val (.int p4), .val (.int p5), .val (.ref b101), .val (.int (1 : Int32)), .val (.int (1 : Int32)), .val v335, .val v340, .val (.ref l_103), .val (.int (3 : Int32)), .val (.int (1 : Int32)), .unset, .unset]) rfl ?_
        show Steps p.tables e below (T374.setTop (mkF m 190 #[.val (.int p0), .val (.int p1), .val (.int p2), .val (.int p3), .val (.int p4), .val (.int p5), .val (.ref b101), .val (.int (1 : Int32)), .val (.int (1 : Int32)), .val v335, .val v340, .val (.ref l_103), .val (.int (3 : Int32)), .val (.int (1 : Int32)), .unset, .unset] [])) _
        refine XS.iload X374.here hx rfl (hb hby at_190) rfl ?_
        refine XS.ifNo X374.here hx rfl (hb hby at_192) rfl ((if0 _ _).trans (feq (by decide : ¬ ((1 : Int32) = (0 : Int32)))).1) ?_
        show Steps p.tables e below (T374.setTop (mkF m 195 #[.val (.int p0), .val (.int p1), .val (.int p2), .val (.int p3), .val (.int p4), .val (.int p5), .val (.ref b101), .val (.int (1 : Int32)), .val (.int (1 : Int32)), .val v335, .val v340, .val (.ref l_103), .val (.int (3 : Int32)), .val (.int (1 : Int32)), .unset, .unset] [])) _
        refine XS.aload X374.here hx rfl (hb hby at_195) rfl rfl ?_
        refine XS.iload X374.here hx rfl (hb hby at_197) rfl ?_
        show Steps p.tables e below (T374.setTop (mkF m 199 #[.val (.int p0), .val (.int p1), .val (.int p2), .val (.int p3), .val (.int p4), .val (.int p5), .val (.ref b101), .val (.int (1 : Int32)), .val (.int (1 : Int32)), .val v335, .val v340, .val (.ref l_103), .val (.int (3 : Int32)), .val (.int (1 : Int32)), .unset, .unset] [(.int (1 : Int32)), (.ref l_103)])) _
        refine st375.trans ?_
        show Steps p.tables e below (T375.setTop (mkF m 204 #[.val (.int p0), .val (.int p1), .val (.int p2), .val (.int p3), .val (.int p4), .val (.int p5), .val (.ref b101), .val (.int (1 : Int32)), .val (.int (1 : Int32)), .val v335, .val v340, .val (.ref l_103), .val (.int (3 : Int32)), .val (.int (1 : Int32)), .unset, .unset] [(.ref e_353)])) _
        refine st377 _ ?_
        show Steps p.tables e below (T377.setTop (mkF m 207 #[.val (.int p0), .val (.int p1), .val (.int p2), .val (.int p3), .val (.int p4), .val (.int p5), .val (.ref b101), .val (.int (1 : Int32)), .val (.int (1 : Int32)), .val v335, .val v340, .val (.ref l_103), .val (.int (3 : Int32)), .val (.int (1 : Int32)), .unset, .unset] [(.ref e_353)])) _
        refine XS.iloadN X377.here hx rfl (hb hby at_207) rfl ?_
        refine XS.aload X377.here hx rfl (hb hby at_208) rfl hv335 ?_
        show Steps p.tables e below (T377.setTop (mkF m 210 #[.val (.int p0), .val (.int p1), .val (.int p2), .val (.int p3), .val (.int p4), .val (.int p5), .val (.ref b101), .val (.int (1 : Int32)), .val (.int (1 : Int32)), .val v335, .val v340, .val (.ref l_103), .val (.int (3 : Int32)), .val (.int (1 : Int32)), .unset, .unset] [v335, (.int p3), (.ref e_353)])) _
        refine st381 _ ?_
        show Steps p.tables e below (T381.setTop (mkF m 213 #[.val (.int p0), .val (.int p1), .val (.int p2), .val (.int p3), .val (.int p4), .val (.int p5), .val (.ref b101), .val (.int (1 : Int32)), .val (.int (1 : Int32)), .val v335, .val v340, .val (.ref l_103), .val (.int (3 : Int32)), .val (.int (1 : Int32)), .unset, .unset] [(.int (1 : Int32))])) _
        refine XS.ifYes X381.here hx rfl (pc0 := 213) (pc' := 218) rfl (hb hby at_213) rfl ((if0 _ _).trans (feq (by decide : ¬ ((1 : Int32) = (0 : Int32)))).2) (by decide) (by decide) ?_
        show Steps p.tables e below (T381.setTop (mkF m 218 #[.val (.int p0), .val (.int p1), .val (.int p2), .val (.int p3), .val (.int p4), .val (.int p5), .val (.ref b101), .val (.int (1 : Int32)), .val (.int (1 : Int32)), .val v335, .val v340, .val (.ref l_103), .val (.int (3 : Int32)), .val (.int (1 : Int32)), .unset, .unset] [])) _
        refine XS.iinc X381.here hx rfl (hb hby at_218) rfl (l' := #[.val (.int p0), .val (.int p1), .val (.int p2), .val (.int p3), .val (.int p4), .val (.int p5), .val (.ref b101), .val (.int (1 : Int32)), .val (.int (1 : Int32)), .val v335, .val v340, .val (.ref l_103), .val (.int (3 : Int32)), .val (.int ((1 : Int32) + (1 : Int32))), .unset, .unset]) rfl ?_
        show Steps p.tables e below (T381.setTop (mkF m 221 #[.val (.int p0), .val (.int p1), .val (.int p2), .val (.int p3), .val (.int p4), .val (.int p5), .val (.ref b101), .val (.int (1 : Int32)), .val (.int (1 : Int32)), .val v335, .val v340, .val (.ref l_103), .val (.int (3 : Int32)), .val (.int ((1 : Int32) + (1 : Int32))), .unset, .unset] [])) _
        rw [show ((1 : Int32) + (1 : Int32)) = (2 : Int32) from by decide]
        show Steps p.tables e below (T381.setTop (mkF m 221 #[.val (.int p0), .val (.int p1), .val (.int p2), .val (.int p3), .val (.int p4), .val (.int p5), .val (.ref b101), .val (.int (1 : Int32)), .val (.int (1 : Int32)), .val v335, .val v340, .val (.ref l_103), .val (.int (3 : Int32)), .val (.int (2 : Int32)), .unset, .unset] [])) _
        refine XS.iload X381.here hx rfl (hb hby at_221) rfl ?_
        refine XS.ifNo X381.here hx rfl (hb hby at_223) rfl ((if0 _ _).trans (feq (by decide : ¬ ((1 : Int32) = (0 : Int32)))).1) ?_
        show Steps p.tables e below (T381.setTop (mkF m 226 #[.val (.int p0), .val (.int p1), .val (.int p2), .val (.int p3), .val (.int p4), .val (.int p5), .val (.ref b101), .val (.int (1 : Int32)), .val (.int (1 : Int32)), .val v335, .val v340, .val (.ref l_103), .val (.int (3 : Int32)), .val (.int (2 : Int32)), .unset, .unset] [])) _
        refine XS.aload X381.here hx rfl (hb hby at_226) rfl rfl ?_
        refine XS.iload X381.here hx rfl (hb hby at_228) rfl ?_
        show Steps p.tables e below (T381.setTop (mkF m 230 #[.val (.int p0), .val (.int p1), .val (.int p2), .val (.int p3), .val (.int p4), .val (.int p5), .val (.ref b101), .val (.int (1 : Int32)), .val (.int (1 : Int32)), .val v335, .val v340, .val (.ref l_103), .val (.int (3 : Int32)), .val (.int (2 : Int32)), .unset, .unset] [(.int (2 : Int32)), (.ref l_103)])) _
        refine st382.trans ?_
        show Steps p.tables e below (T382.setTop (mkF m 235 #[.val (.int p0), .val (.int p1), .val (.int p2), .val (.int p3), .val (.int p4), .val (.int p5), .val (.ref b101), .val (.int (1 : Int32)), .val (.int (1 : Int32)), .val v335, .val v340, .val (.ref l_103), .val (.int (3 : Int32)), .val (.int (2 : Int32)), .unset, .unset] [(.ref e_357)])) _
        refine st384 _ ?_
        show Steps p.tables e below (T384.setTop (mkF m 238 #[.val (.int p0), .val (.int p1), .val (.int p2), .val (.int p3), .val (.int p4), .val (.int p5), .val (.ref b101), .val (.int (1 : Int32)), .val (.int (1 : Int32)), .val v335, .val v340, .val (.ref l_103), .val (.int (3 : Int32)), .val (.int (2 : Int32)), .unset, .unset] [(.ref e_357)])) _
        refine XS.iload X384.here hx rfl (hb hby at_238) rfl ?_
        refine XS.aload X384.here hx rfl (hb hby at_240) rfl hv340 ?_
        show Steps p.tables e below (T384.setTop (mkF m 242 #[.val (.int p0), .val (.int p1), .val (.int p2), .val (.int p3), .val (.int p4), .val (.int p5), .val (.ref b101), .val (.int (1 : Int32)), .val (.int (1 : Int32)), .val v335, .val v340, .val (.ref l_103), .val (.int (3 : Int32)), .val (.int (2 : Int32)), .unset, .unset] [v340, (.int p4), (.ref e_357)])) _
        refine st388 _ ?_
        show Steps p.tables e below (T388.setTop (mkF m 245 #[.val (.int p0), .val (.int p1), .val (.int p2), .val (.int p3), .val (.int p4), .val (.int p5), .val (.ref b101), .val (.int (1 : Int32)), .val (.int (1 : Int32)), .val v335, .val v340, .val (.ref l_103), .val (.int (3 : Int32)), .val (.int (2 : Int32)), .unset, .unset] [(.int (1 : Int32))])) _
        refine XS.ifYes X388.here hx rfl (pc0 := 245) (pc' := 250) rfl (hb hby at_245) rfl ((if0 _ _).trans (feq (by decide : ¬ ((1 : Int32) = (0 : Int32)))).2) (by decide) (by decide) ?_
        show Steps p.tables e below (T388.setTop (mkF m 250 #[.val (.int p0), .val (.int p1), .val (.int p2), .val (.int p3), .val (.int p4), .val (.int p5), .val (.ref b101), .val (.int (1 : Int32)), .val (.int (1 : Int32)), .val v335, .val v340, .val (.ref l_103), .val (.int (3 : Int32)), .val (.int (2 : Int32)), .unset, .unset] [])) _
        refine XS.aload X388.here hx rfl (hb hby at_250) rfl rfl ?_
        show Steps p.tables e below (T388.setTop (mkF m 252 #[.val (.int p0), .val (.int p1), .val (.int p2), .val (.int p3), .val (.int p4), .val (.int p5), .val (.ref b101), .val (.int (1 : Int32)), .val (.int (1 : Int32)), .val v335, .val v340, .val (.ref l_103), .val (.int (3 : Int32)), .val (.int (2 : Int32)), .unset, .unset] [(.ref b101)])) _
        refine st389.trans ?_
        show Steps p.tables e below (T389.setTop (mkF m 255 #[.val (.int p0), .val (.int p1), .val (.int p2), .val (.int p3), .val (.int p4), .val (.int p5), .val (.ref b101), .val (.int (1 : Int32)), .val (.int (1 : Int32)), .val v335, .val v340, .val (.ref l_103), .val (.int (3 : Int32)), .val (.int (2 : Int32)), .unset, .unset] [(.ref l_362)])) _
        refine XS.astore X389.here hx rfl (hb hby at_255) rfl rfl (l' := #[.val (.int p0), .val (.int p1), .val (.int p2), .val (.int p3), .val (.int p4), .val (.int p5), .val (.ref b101), .val (.int (1 : Int32)), .val (.int (1 : Int32)), .val v335, .val v340, .val (.ref l_103), .val (.int (3 : Int32)), .val (.int (2 : Int32)), .val (.ref l_362), .unset]) rfl ?_
        show Steps p.tables e below (T389.setTop (mkF m 257 #[.val (.int p0), .val (.int p1), .val (.int p2), .val (.int p3), .val (.int p4), .val (.int p5), .val (.ref b101), .val (.int (1 : Int32)), .val (.int (1 : Int32)), .val v335, .val v340, .val (.ref l_103), .val (.int (3 : Int32)), .val (.int (2 : Int32)), .val (.ref l_362), .unset] [])) _
        refine XS.aload X389.here hx rfl (hb hby at_257) rfl rfl ?_
        show Steps p.tables e below (T389.setTop (mkF m 259 #[.val (.int p0), .val (.int p1), .val (.int p2), .val (.int p3), .val (.int p4), .val (.int p5), .val (.ref b101), .val (.int (1 : Int32)), .val (.int (1 : Int32)), .val v335, .val v340, .val (.ref l_103), .val (.int (3 : Int32)), .val (.int (2 : Int32)), .val (.ref l_362), .unset] [(.ref l_362)])) _
        refine st392.trans ?_
        show Steps p.tables e below (T392.setTop (mkF m 264 #[.val (.int p0), .val (.int p1), .val (.int p2), .val (.int p3), .val (.int p4), .val (.int p5), .val (.ref b101), .val (.int (1 : Int32)), .val (.int (1 : Int32)), .val v335, .val v340, .val (.ref l_103), .val (.int (3 : Int32)), .val (.int (2 : Int32)), .val (.ref l_362), .unset] [(.int (0 : Int32))])) _
        refine XS.ifYes X392.here hx rfl (pc0 := 264) (pc' := 269) rfl (hb hby at_264) rfl ((if0 _ _).trans (teq (by decide : (0 : Int32) = (0 : Int32))).1) (by decide) (by decide) ?_
        show Steps p.tables e below (T392.setTop (mkF m 269 #[.val (.int p0), .val (.int p1), .val (.int p2), .val (.int p3), .val (.int p4), .val (.int p5), .val (.ref b101), .val (.int (1 : Int32)), .val (.int (1 : Int32)), .val v335, .val v340, .val (.ref l_103), .val (.int (3 : Int32)), .val (.int (2 : Int32)), .val (.ref l_362), .unset] [])) _
        refine XS.aload X392.here hx rfl (hb hby at_269) rfl rfl ?_
        refine XS.iload X392.here hx rfl (hb hby at_271) rfl ?_
        refine XS.aload X392.here hx rfl (hb hby at_273) rfl hv335 ?_
        show Steps p.tables e below (T392.setTop (mkF m 275 #[.val (.int p0), .val (.int p1), .val (.int p2), .val (.int p3), .val (.int p4), .val (.int p5), .val (.ref b101), .val (.int (1 : Int32)), .val (.int (1 : Int32)), .val v335, .val v340, .val (.ref l_103), .val (.int (3 : Int32)), .val (.int (2 : Int32)), .val (.ref l_362), .unset] [v335, (.int p4), (.ref b101)])) _
        refine st394.trans ?_
        show Steps p.tables e below (T394.setTop (mkF m 278 #[.val (.int p0), .val (.int p1), .val (.int p2), .val (.int p3), .val (.int p4), .val (.int p5), .val (.ref b101), .val (.int (1 : Int32)), .val (.int (1 : Int32)), .val v335, .val v340, .val (.ref l_103), .val (.int (3 : Int32)), .val (.int (2 : Int32)), .val (.ref l_362), .unset] [])) _
        refine XS.aload X394.here hx rfl (hb hby at_278) rfl rfl ?_
        show Steps p.tables e below (T394.setTop (mkF m 280 #[.val (.int p0), .val (.int p1), .val (.int p2), .val (.int p3), .val (.int p4), .val (.int p5), .val (.ref b101), .val (.int (1 : Int32)), .val (.int (1 : Int32)), .val v335, .val v340, .val (.ref l_103), .val (.int (3 : Int32)), .val (.int (2 : Int32)), .val (.ref l_362), .unset] [(.ref l_103)])) _
        refine st397.trans ?_
        show Steps p.tables e below (T397.setTop (mkF m 285 #[.val (.int p0), .val (.int p1), .val (.int p2), .val (.int p3), .val (.int p4), .val (.int p5), .val (.ref b101), .val (.int (1 : Int32)), .val (.int (1 : Int32)), .val v335, .val v340, .val (.ref l_103), .val (.int (3 : Int32)), .val (.int (2 : Int32)), .val (.ref l_362), .unset] [(.int (3 : Int32))])) _
        refine XS.iload X397.here hx rfl (hb hby at_285) rfl ?_
        refine XS.icmpYes X397.here hx rfl (pc0 := 287) (pc' := 292) rfl (hb hby at_287) rfl (teq (by decide : (3 : Int32) = (3 : Int32))).1 (by decide) (by decide) ?_
        show Steps p.tables e below (T397.setTop (mkF m 292 #[.val (.int p0), .val (.int p1), .val (.int p2), .val (.int p3), .val (.int p4), .val (.int p5), .val (.ref b101), .val (.int (1 : Int32)), .val (.int (1 : Int32)), .val v335, .val v340, .val (.ref l_103), .val (.int (3 : Int32)), .val (.int (2 : Int32)), .val (.ref l_362), .unset] [])) _
        refine XS.aload X397.here hx rfl (hb hby at_292) rfl rfl ?_
        show Steps p.tables e below (T397.setTop (mkF m 294 #[.val (.int p0), .val (.int p1), .val (.int p2), .val (.int p3), .val (.int p4), .val (.int p5), .val (.ref b101), .val (.int (1 : Int32)), .val (.int (1 : Int32)), .val v335, .val v340, .val (.ref l_103), .val (.int (3 : Int32)), .val (.int (2 : Int32)), .val (.ref l_362), .unset] [(.ref b101)])) _
        refine st401.trans ?_
        show Steps p.tables e below (T401.setTop (mkF m 297 #[.val (.int p0), .val (.int p1), .val (.int p2), .val (.int p3), .val (.int p4), .val (.int p5), .val (.ref b101), .val (.int (1 : Int32)), .val (.int (1 : Int32)), .val v335, .val v340, .val (.ref l_103), .val (.int (3 : Int32)), .val (.int (2 : Int32)), .val (.ref l_362), .unset] [(.ref l_389)])) _
        refine XS.astore X401.here hx rfl (hb hby at_297) rfl rfl (l' := #[.val (.int p0), .val (.int p1), .val (.int p2), .val (.int p3), .val (.int p4), .val (.int p5), .val (.ref b101), .val (.int (1 : Int32)), .val (.int (1 : Int32)), .val v335, .val v340, .val (.ref l_103), .val (.int (3 : Int32)), .val (.int (2 : Int32)), .val (.ref l_362), .val (.ref l_389)]) rfl ?_
        show Steps p.tables e below (T401.setTop (mkF m 299 #[.val (.int p0), .val (.int p1), .val (.int p2), .val (.int p3), .val (.int p4), .val (.int p5), .val (.ref b101), .val (.int (1 : Int32)), .val (.int (1 : Int32)), .val v335, .val v340, .val (.ref l_103), .val (.int (3 : Int32)), .val (.int (2 : Int32)), .val (.ref l_362), .val (.ref l_389)] [])) _
        refine XS.aload X401.here hx rfl (hb hby at_299) rfl rfl ?_
        show Steps p.tables e below (T401.setTop (mkF m 301 #[.val (.int p0), .val (.int p1), .val (.int p2), .val (.int p3), .val (.int p4), .val (.int p5), .val (.ref b101), .val (.int (1 : Int32)), .val (.int (1 : Int32)), .val v335, .val v340, .val (.ref l_103), .val (.int (3 : Int32)), .val (.int (2 : Int32)), .val (.ref l_362), .val (.ref l_389)] [(.ref l_389)])) _
        refine st404.trans ?_
        show Steps p.tables e below (T404.setTop (mkF m 306 #[.val (.int p0), .val (.int p1), .val (.int p2), .val (.int p3), .val (.int p4), .val (.int p5), .val (.ref b101), .val (.int (1 : Int32)), .val (.int (1 : Int32)), .val v335, .val v340, .val (.ref l_103), .val (.int (3 : Int32)), .val (.int (2 : Int32)), .val (.ref l_362), .val (.ref l_389)] [(.int (1 : Int32))])) _
        refine XS.iconst X404.here hx rfl (hb hby at_306) ?_
        refine XS.icmpNo X404.here hx rfl (hb hby at_307) rfl (teq (by decide : (1 : Int32) = (1 : Int32))).2 ?_
        show Steps p.tables e below (T404.setTop (mkF m 310 #[.val (.int p0), .val (.int p1), .val (.int p2), .val (.int p3), .val (.int p4), .val (.int p5), .val (.ref b101), .val (.int (1 : Int32)), .val (.int (1 : Int32)), .val v335, .val v340, .val (.ref l_103), .val (.int (3 : Int32)), .val (.int (2 : Int32)), .val (.ref l_362), .val (.ref l_389)] [])) _
        refine XS.aload X404.here hx rfl (hb hby at_310) rfl rfl ?_
        refine XS.iconst X404.here hx rfl (hb hby at_312) ?_
        show Steps p.tables e below (T404.setTop (mkF m 313 #[.val (.int p0), .val (.int p1), .val (.int p2), .val (.int p3), .val (.int p4), .val (.int p5), .val (.ref b101), .val (.int (1 : Int32)), .val (.int (1 : Int32)), .val v335, .val v340, .val (.ref l_103), .val (.int (3 : Int32)), .val (.int (2 : Int32)), .val (.ref l_362), .val (.ref l_389)] [(.int (0 : Int32)), (.ref l_389)])) _
        refine st408.trans ?_
        show Steps p.tables e below (T408.setTop (mkF m 318 #[.val (.int p0), .val (.int p1), .val (.int p2), .val (.int p3), .val (.int p4), .val (.int p5), .val (.ref b101), .val (.int (1 : Int32)), .val (.int (1 : Int32)), .val v335, .val v340, .val (.ref l_103), .val (.int (3 : Int32)), .val (.int (2 : Int32)), .val (.ref l_362), .val (.ref l_389)] [(.ref e_394)])) _
        refine st410 _ ?_
        show Steps p.tables e below (T410.setTop (mkF m 321 #[.val (.int p0), .val (.int p1), .val (.int p2), .val (.int p3), .val (.int p4), .val (.int p5), .val (.ref b101), .val (.int (1 : Int32)), .val (.int (1 : Int32)), .val v335, .val v340, .val (.ref l_103), .val (.int (3 : Int32)), .val (.int (2 : Int32)), .val (.ref l_362), .val (.ref l_389)] [(.ref e_394)])) _
        refine XS.iload X410.here hx rfl (hb hby at_321) rfl ?_
        refine XS.aload X410.here hx rfl (hb hby at_323) rfl hv335 ?_
        show Steps p.tables e below (T410.setTop (mkF m 325 #[.val (.int p0), .val (.int p1), .val (.int p2), .val (.int p3), .val (.int p4), .val (.int p5), .val (.ref b101), .val (.int (1 : Int32)), .val (.int (1 : Int32)), .val v335, .val v340, .val (.ref l_103), .val (.int (3 : Int32)), .val (.int (2 : Int32)), .val (.ref l_362), .val (.ref l_389)] [v335, (.int p4), (.ref e_394)])) _
        refine st414 _ ?_
        show Steps p.tables e below (T414.setTop (mkF m 328 #[.val (.int p0), .val (.int p1), .val (.int p2), .val (.int p3), .val (.int p4), .val (.int p5), .val (.ref b101), .val (.int (1 : Int32)), .val (.int (1 : Int32)), .val v335, .val v340, .val (.ref l_103), .val (.int (3 : Int32)), .val (.int (2 : Int32)), .val (.ref l_362), .val (.ref l_389)] [(.int (1 : Int32))])) _
        refine XS.ifNo X414.here hx rfl (hb hby at_328) rfl ((if0 _ _).trans (feq (by decide : ¬ ((1 : Int32) = (0 : Int32)))).1) ?_
        show Steps p.tables e below (T414.setTop (mkF m 331 #[.val (.int p0), .val (.int p1), .val (.int p2), .val (.int p3), .val (.int p4), .val (.int p5), .val (.ref b101), .val (.int (1 : Int32)), .val (.int (1 : Int32)), .val v335, .val v340, .val (.ref l_103), .val (.int (3 : Int32)), .val (.int (2 : Int32)), .val (.ref l_362), .val (.ref l_389)] [])) _
        refine XS.iconst X414.here hx rfl (hb hby at_331) ?_
        refine XS.goto X414.here hx rfl (pc0 := 332) (pc' := 336) rfl (hb hby at_332) (by decide) (by decide) ?_
        show Steps p.tables e below (T414.setTop (mkF m 336 #[.val (.int p0), .val (.int p1), .val (.int p2), .val (.int p3), .val (.int p4), .val (.int p5), .val (.ref b101), .val (.int (1 : Int32)), .val (.int (1 : Int32)), .val v335, .val v340, .val (.ref l_103), .val (.int (3 : Int32)), .val (.int (2 : Int32)), .val (.ref l_362), .val (.ref l_389)] [(.int (1 : Int32))])) _
        exact Jvm.RoadKit.retOut X414 hx Bd.returns rfl (Or.inl ⟨rfl, by simp, _, rfl⟩) (hb hby at_336) hr
      · show Q_rm0 Z p0 p1 p2 p3 p4 p5 w_Kind_EXIT w_Kind_ENTRY wd kd vd zc h0 n0 _ T414.heap _
        rw [e414]
        unfold Q_rm0
        exact ⟨rfl, N414, K424⟩
theorem own_evR {args : Array Value} {s : State} {a b : Term} {y : Addr} (h : (Jvm.Cond.eq a b).value args s none s [] = some true) (hb : b.eval args s none [] s = some (.ref y)) : a.eval args s none [] s = some (.ref y) := by
  obtain ⟨x, z, h1, h2, h3, h4⟩ := cmp_v (Or.inl h)
  cases h2.symm.trans hb
  have hx : x.isRef = true := h4.2
  have q := gotT (eq_R h1 hb hx rfl) h
  rw [h1, q]
theorem own_len {args : Array Value} {s : State} {t : Term} {a : Addr} {cl : Cell} {ty : FieldType} {n : Int32} (A : Arr s s.heap a cl ty) (ev : t.eval args s none [] s = some (.ref a)) (h : (Term.length t).eval args s none [] s = some (.int n)) : cl.slots.size < 2 ^ 31 ∧ cl.slots.size.toInt32 = n := by
  have ha : s.arrayAt? a = some cl := A.fin (Vm.Alike.refl _)
  have hl := SBG.length_lt ev ha h
  have q := len_f ev ha hl
  exact ⟨hl, by simpa using Option.some.inj (q.symm.trans h)⟩
theorem own_arvU {s : State} {a : Addr} {cl : Cell} {ty : FieldType} {n : Int32} {dv : Value} (hf : Fit s) (A : Arr s s.heap a cl ty) (q : cl.slots.size < 2 ^ 31) (e : cl.slots.size.toInt32 = n) (hn : ¬ n < 0) : Arv s s.heap a cl.cls ty n cl.slots.toList dv := by
  have S : cl.slots.size = n.toNatClampNeg := by rw [← e]; simp only [Int32.toNatClampNeg, len_toInt q]; rfl
  have H : Has cl cl.slots.toList dv := fun j hj => by simp [hj]
  refine ⟨cl, A, rfl, S, hn, H, fun j hj => ?_⟩
  have e1 : (Nat.toInt32 j).toNatClampNeg = j := by simp only [Int32.toNatClampNeg, len_toInt (Nat.lt_trans hj q)]; rfl
  exact elem_fits (j := Nat.toInt32 j) hf A (idx_in hj q) (by rw [e1]; exact H j hj)
set_option maxRecDepth 65536 in
set_option maxHeartbeats 40000000 in
theorem comes_1 {Post : Tables → Env → Array Value → State → Outcome → State → Prop} (hpost : ∀ tb e args s v u, (limb_1_1.after args s (.returned v) u = true ∧ limb_1_2.after args s (.returned v) u = true ∧ True) → ReturnedEndW s (.returned v) u (Jvm.fieldLocs frame_1_writes args s ++ Jvm.arrayLocs frame_1_arrays args s ++ Jvm.staticLocs frame_1_statics s) 80 2496 → Post tb e args s (.returned v) u) :
    ArmFor flags0 classFile x code maxLocals ret World_1 tables_1 room_1 Calls_1 rest_1 Pre_1 Post := by
  intro l hfl _ _ p e ha hc hk s m args below hf hA hF happ hP
  obtain ⟨hcalls, hrest, hpre⟩ := hP
  obtain ⟨-, -, -, hnamed, -, -, -, hat⟩ := (Spec.applies_iff hf).mp happ
  obtain ⟨hg, hn⟩ := and_e (Cond.before_iff.mp (show (Jvm.Cond.and given_1 narrow_1).before args s = true from hpre))
  obtain ⟨gg1, gg2⟩ := and_e hg
  obtain ⟨gg3, gg4⟩ := and_e gg2
  obtain ⟨gg5, gg6⟩ := and_e gg4
  obtain ⟨gg7, gg8⟩ := and_e gg6
  obtain ⟨gg9, gg10⟩ := and_e gg8
  obtain ⟨gg11, gg12⟩ := and_e gg10
  obtain ⟨w0, w1, w2, w3, w4, w5, rfl⟩ : ∃ w0 w1 w2 w3 w4 w5 : Value, args = #[w0, w1, w2, w3, w4, w5] := by
    have hs : args.size = 6 := by simpa [Cond.value, given_1] using gg1
    obtain ⟨L⟩ := args
    match L, hs with
    | [w0, w1, w2, w3, w4, w5], _ => exact ⟨w0, w1, w2, w3, w4, w5, rfl⟩
  have hw := fun d (hd : d ∈ tables_1) => atoms_spec (ws := Jvm.Cond.code x code maxLocals ret :: tables_1) hat d (List.mem_cons_of_mem _ hd)
  have hfit : Fit s := fun {y c} hc i hi => by
    obtain ⟨ha, rfl⟩ := Array.getElem?_eq_some_iff.mp hc
    have q := List.all_eq_true.mp ((Array.all_eq_true_iff_forall_mem.mp hF) _ (Array.getElem_mem ha)) i (List.mem_range.mpr hi)
    simpa [Array.getElem?_eq_getElem hi] using q
  obtain ⟨hsets, hown0⟩ := atoms_of _ (rest_1_c_eq ▸ (show rest_1_c.before _ s = true from hrest))
  have hr0 := Cond.before_iff.mp hown0
  obtain ⟨i0, ei0⟩ := is_v gg3
  obtain rfl : w0 = (.int i0) := Option.some.inj ei0
  obtain ⟨i1, ei1⟩ := is_v gg5
  obtain rfl : w1 = (.int i1) := Option.some.inj ei1
  obtain ⟨i2, ei2⟩ := is_v gg7
  obtain rfl : w2 = (.int i2) := Option.some.inj ei2
  obtain ⟨i3, ei3⟩ := is_v gg9
  obtain rfl : w3 = (.int i3) := Option.some.inj ei3
  obtain ⟨i4, ei4⟩ := is_v gg11
  obtain rfl : w4 = (.int i4) := Option.some.inj ei4
  obtain ⟨i5, ei5⟩ := is_v gg12
  obtain rfl : w5 = (.int i5) := Option.some.inj ei5
  obtain ⟨na1, na2⟩ := and_e hn
  obtain ⟨w_Kind_EXIT, ev3⟩ := exa_v na2
  have S_Kind_EXIT : Sta s s.heap "com/example/fixlore/fixlore/lang/SemanticGraph$Kind" "EXIT" "Lcom/example/fixlore/fixlore/lang/SemanticGraph$Kind;" (.ref w_Kind_EXIT) := Sta.start ev3 (Or.inr ⟨(hwk hw 99 rfl), (hwk hw 191 rfl)⟩)
  have E_w_Kind_EXIT : Exa s s.heap w_Kind_EXIT "com/example/fixlore/fixlore/lang/SemanticGraph$Kind" := Exa.start ev3 na2
  obtain ⟨w_Kind_ENTRY, ev4⟩ := exa_v na1
  have S_Kind_ENTRY : Sta s s.heap "com/example/fixlore/fixlore/lang/SemanticGraph$Kind" "ENTRY" "Lcom/example/fixlore/fixlore/lang/SemanticGraph$Kind;" (.ref w_Kind_ENTRY) := Sta.start ev4 (Or.inr ⟨(hwk hw 99 rfl), (hwk hw 100 rfl)⟩)
  have E_w_Kind_ENTRY : Exa s s.heap w_Kind_ENTRY "com/example/fixlore/fixlore/lang/SemanticGraph$Kind" := Exa.start ev4 na1
  obtain ⟨zc, evz⟩ := is_v (Cond.before_iff.mp (hsets _ (List.mem_of_getElem? (i := 10) rfl)))
  have SZ : Sta s s.heap "java/lang/String" "COMPACT_STRINGS" "Z" (.int zc) := Sta.start evz (Or.inl (hsets _ (List.mem_of_getElem? (i := 9) rfl)))
  have PZ : ¬ (zc = (0 : Int32)) := gotF (Jvm.Cond.eq_ints evz rfl) (not_v (Cond.before_iff.mp (hsets _ (List.mem_of_getElem? (i := 11) rfl))))
  have k6 := Cond.before_iff.mp (hsets _ (List.mem_of_getElem? (i := 6) rfl))
  obtain ⟨wd, evd⟩ := arr_v k6
  obtain ⟨cd, Acd⟩ := Arr.start evd k6
  have k8 := own_eqI (Cond.before_iff.mp (hsets _ (List.mem_of_getElem? (i := 8) rfl))) rfl
  obtain ⟨h31d, hszd⟩ := own_len Acd evd k8
  have SD : Sta s s.heap "java/util/ArrayList" "DEFAULTCAPACITY_EMPTY_ELEMENTDATA" "[Ljava/lang/Object;" (.ref wd) := Sta.start evd (Or.inr ⟨(hwk hw 11 rfl), (hsets _ (List.mem_of_getElem? (i := 2) rfl))⟩)
  have VD : Arv s s.heap wd cd.cls (.object "java/lang/Object") (0 : Int32) cd.slots.toList .null := own_arvU hfit Acd h31d hszd (by decide)
  obtain ⟨n, o, h1, h2, h3, _, L, rfl, hQ, hq⟩ := rm0 l s _ hw tables_1 i0 i1 i2 i3 i4 i5 w_Kind_EXIT w_Kind_ENTRY wd cd.cls cd.slots.toList zc s.heap s.heap.size (Old.start s) S_Kind_EXIT E_w_Kind_EXIT S_Kind_ENTRY E_w_Kind_ENTRY SD VD SZ PZ p e ha hc hk s m _ below hf ((Spec.applies_iff_loose hf).mp happ).1 ⟨rfl, State.Warmed39.refl s, rfl⟩ trivial
  unfold Q_rm0 at hQ
  obtain ⟨rfl, N, -⟩ := hQ
  refine ⟨n, _, h1, h2, h3, hpost _ _ _ _ _ _ ⟨Cond.after_iff.mpr rfl, Cond.after_iff.mpr (eq_i res_at (Term.int_eval (1)) rfl), trivial⟩ ⟨hq.1, hq.2.1, hq.2.2.1, (hq.2.2.2.sift fun y hy => Or.inr (N y hy)).mono (by decide) (by decide)⟩⟩
theorem main_1_1 : Claimed_1_1 := comes_1 fun _ _ _ _ _ _ h hF => ⟨h.1, hF⟩
theorem main_1_2 : Claimed_1_2 := comes_1 fun _ _ _ _ _ _ h hF => ⟨h.2.1, hF⟩
end Jvm.Pilot.@@N@@
namespace Jvm.Pilot.@@N@@
open Jvm Jvm.ClassFile Sem Op Lib Jvm.Free Jvm.Stand Jvm.Pilot.@@N@@.Jvm.D
/-! MADE BY PROGRAM (witnessworld.py) out of the Statement's table words and the real class files: 42 classes; the members and pool entries that the words name. The judged class is class 1, her method 2. -/
namespace start1
open Jvm.ClassFile
def u (s : String) : CpInfo := .utf8 (stringToUtf16 s)
/-- a pool by its gaps: so many unusable entries, then the entry; so many at the end -/
def gap : Nat → List CpInfo → List CpInfo
  | 0, r => r
  | n + 1, r => .unusable :: gap n r
def poolList (es : List (Nat × CpInfo)) (last : Nat) : List CpInfo := es.foldr (fun e r => gap e.1 (e.2 :: r)) (gap last [])
def pool (es : List (Nat × CpInfo)) (last : Nat) : Array CpInfo := ⟨poolList es last⟩
def fileOf (pool : Array CpInfo) (this : Nat) (attrs : Array Attribute := #[]) (ms : Array MethodInfo := #[]) (fl : Nat := 33) (sup : Nat := 0) (ifs : Array Nat := #[]) (fds : Array FieldInfo := #[]) : ClassFile where
  minorVersion := 0
  majorVersion := 65
  constantPool := pool
  accessFlags := fl
  thisClass := this
  superClass := sup
  interfaces := ifs
  fields := fds
  methods := ms
  attributes := attrs
def plain (name : String) (sup : Option ClassId) : Class where
  name := name
  kind := .ordinary
  loader := none
  accessFlags := 33
  super := sup
  interfaces := #[]
  cf := none
  fields := #[]
  methods := #[]
  instanceTypes := #[]
  staticTypes := #[]
  resolved := #[]
  callSites := []
  init := .initialized
  statics := none
  mirror := none

def pool0 : Array CpInfo := pool [(5, u "<init>"), (0, u "()V"), (1, .class_ 10), (1, u "java/lang/Object")] 113

def k0c0 : Code := { maxStack := 0, maxLocals := 1, code := object_method_1_code, exceptionTable := #[], attributes := #[] }
def k0m0 : Method := { name := "<init>", desc := "()V", sig := { parameters := [], returnType := none }, accessFlags := 1, code := some k0c0 }
/-- java/lang/Object -/
def k0 : Class := { plain "java/lang/Object" none with
  accessFlags := 33
  interfaces := #[]
  cf := some (fileOf pool0 8 #[] #[{ accessFlags := 1, nameIndex := 5, descriptorIndex := 6, attributes := #[] }] 33 0 #[] #[])
  fields := #[]
  methods := #[k0m0]
  instanceTypes := #[]
  staticTypes := #[]
  resolved := Array.replicate 124 none
  statics := none }

def pool1 : Array CpInfo := pool [(2, .class_ 4), (1, u "java/lang/Object"), (0, u "<init>"), (0, u "()V"), (0, .methodref 8 9), (0, .class_ 10), (0, .nameAndType 11 12), (0, u "com/example/fixlore/fixlore/lang/GraphBuilder$End"), (0, u "from"), (0, u "()I"), (0, .methodref 8 14), (0, .nameAndType 15 16), (0, u "branch"), (0, u "()Ljava/lang/String;"), (0, .methodref 18 19), (0, .class_ 20), (0, .nameAndType 21 22), (0, u "java/lang/String"), (0, u "equals"), (0, u "(Ljava/lang/Object;)Z"), (0, .class_ 24), (0, u "com/example/fixlore/fixlore/lang/GraphBuilder"), (0, .methodref 23 26), (0, .nameAndType 5 27), (0, u "(III)V"), (0, .methodref 18 29), (0, .nameAndType 30 31), (0, u "valueOf"), (0, u "(C)Ljava/lang/String;"), (0, .methodref 23 33), (0, .nameAndType 34 35), (0, u "join"), (0, u "(ILjava/lang/String;)V"), (0, .methodref 23 37), (0, .nameAndType 38 39), (0, u "suspend"), (0, u "()Ljava/util/List;"), (0, .interfaceMethodref 41 42), (0, .class_ 43), (0, .nameAndType 44 12), (0, u "java/util/List"), (0, u "size"), (0, .interfaceMethodref 41 46), (0, .nameAndType 47 48), (0, u "get"), (0, u "(I)Ljava/lang/Object;"), (0, .methodref 50 51), (0, .class_ 52), (0, .nameAndType 53 54), (0, u "com/example/fixlore/fixlore/lang/GraphBuilderSuspendPinLaw"), (0, u "endIs"), (0, u "(Lcom/example/fixlore/fixlore/lang/GraphBuilder$End;ILjava/lang/String;)Z"), (3, u "law"), (0, u "(IIIIII)Z")] 4

def k1m0 : Method := { name := "<init>", desc := "()V", sig := { parameters := [], returnType := none }, accessFlags := 2, code := none }
def k1c1 : Code := { maxStack := 2, maxLocals := 3, code := method_2_code, exceptionTable := #[], attributes := #[] }
def k1m1 : Method := { name := "endIs", desc := "(Lcom/example/fixlore/fixlore/lang/GraphBuilder$End;ILjava/lang/String;)Z", sig := { parameters := [(.object "com/example/fixlore/fixlore/lang/GraphBuilder$End"), .int, (.object "java/lang/String")], returnType := some .boolean }, accessFlags := 10, code := some k1c1 }
def k1c2 : Code := { maxStack := 5, maxLocals := 16, code := code, exceptionTable := #[], attributes := #[] }
def k1m2 : Method := { name := "law", desc := "(IIIIII)Z", sig := { parameters := [.int, .int, .int, .int, .int, .int], returnType := some .boolean }, accessFlags := 9, code := some k1c2 }
/-- com/example/fixlore/fixlore/lang/GraphBuilderSuspendPinLaw -/
def k1 : Class := { plain "com/example/fixlore/fixlore/lang/GraphBuilderSuspendPinLaw" (some 0) with
  accessFlags := 49
  interfaces := #[]
  cf := some (fileOf pool1 50 #[] #[{ accessFlags := 2, nameIndex := 5, descriptorIndex := 6, attributes := #[] }, { accessFlags := 10, nameIndex := 53, descriptorIndex := 54, attributes := #[] }, { accessFlags := 9, nameIndex := 58, descriptorIndex := 59, attributes := #[] }] 49 2 #[] #[])
  fields := #[]
  methods := #[k1m0, k1m1, k1m2]
  instanceTypes := #[]
  staticTypes := #[]
  resolved := Array.replicate 64 none
  statics := none }

def pool2 : Array CpInfo := pool [(1, .methodref 2 3), (0, .class_ 4), (0, .nameAndType 5 6), (0, u "java/lang/Object"), (0, u "<init>"), (0, u "()V"), (0, .class_ 8), (0, u "java/util/ArrayList"), (0, .methodref 7 3), (0, .fieldref 11 12), (0, .class_ 13), (0, .nameAndType 14 15), (0, u "com/example/fixlore/fixlore/lang/GraphBuilder"), (0, u "nodes"), (0, u "Ljava/util/List;"), (0, .fieldref 11 17), (0, .nameAndType 18 15), (0, u "edges"), (0, .class_ 20), (0, u "java/util/HashMap"), (0, .methodref 19 3), (0, .fieldref 11 23), (0, .nameAndType 24 25), (0, u "variables"), (0, u "Ljava/util/Map;"), (0, .class_ 27), (0, u "java/util/HashSet"), (0, .methodref 26 3), (0, .fieldref 11 30), (0, .nameAndType 31 32), (0, u "bound"), (0, u "Ljava/util/Set;"), (0, .fieldref 11 34), (0, .nameAndType 35 25), (0, u "outsideNames"), (0, .class_ 37), (0, u "java/util/ArrayDeque"), (0, .methodref 36 3), (0, .fieldref 11 40), (0, .nameAndType 41 42), (0, u "frames"), (0, u "Ljava/util/Deque;"), (0, .fieldref 11 44), (0, .nameAndType 45 15), (0, u "tryParts"), (0, .fieldref 11 47), (0, .nameAndType 48 42), (0, u "openTryParts"), (0, .fieldref 11 50), (0, .nameAndType 51 15), (0, u "pending"), (0, .fieldref 53 54), (0, .class_ 55), (0, .nameAndType 56 57), (0, u "com/example/fixlore/fixlore/lang/SemanticGraph$Kind"), (0, u "ENTRY"), (0, u "Lcom/example/fixlore/fixlore/lang/SemanticGraph$Kind;"), (0, .string 59), (0, u "entry"), (0, .methodref 11 61), (0, .nameAndType 62 63), (0, u "add"), (0, u "(Lcom/example/fixlore/fixlore/lang/SemanticGraph$Kind;Ljava/lang/String;II)I"), (0, .fieldref 53 65), (0, .nameAndType 66 57), (0, u "EXIT"), (0, .string 68), (0, u "exit"), (0, .fieldref 11 70), (0, .nameAndType 68 71), (0, u "I"), (0, .methodref 11 73), (0, .nameAndType 74 75), (0, u "follow"), (0, u "(ILjava/lang/String;)V"), (0, .interfaceMethodref 77 78), (0, .class_ 79), (0, .nameAndType 80 81), (0, u "java/util/Deque"), (0, u "isEmpty"), (0, u "()Z"), (9, u "()I"), (0, .class_ 93), (0, u "com/example/fixlore/fixlore/lang/GraphBuilder$Draft"), (0, .methodref 92 95), (0, .nameAndType 5 96), (0, u "(Lcom/example/fixlore/fixlore/lang/SemanticGraph$Kind;Ljava/lang/String;III)V"), (0, .interfaceMethodref 98 99), (0, .class_ 100), (0, .nameAndType 62 101), (0, u "java/util/List"), (0, u "(Ljava/lang/Object;)Z"), (0, .interfaceMethodref 98 103), (0, .nameAndType 104 91), (0, u "size"), (25, .class_ 131), (0, u "com/example/fixlore/fixlore/lang/GraphBuilder$RawEdge"), (43, .methodref 11 176), (0, .nameAndType 177 75), (0, u "join"), (4, .class_ 183), (0, u "com/example/fixlore/fixlore/lang/GraphBuilder$End"), (0, .methodref 182 185), (0, .nameAndType 5 75), (2, u "suspend"), (0, u "()Ljava/util/List;"), (42, .class_ 233), (0, u "com/example/fixlore/fixlore/lang/GraphBuilder$Frame"), (0, .class_ 235), (0, u "com/example/fixlore/fixlore/lang/GraphBuilder$Finally"), (6, .class_ 243), (0, u "com/example/fixlore/fixlore/lang/GraphBuilder$Handlers"), (1, .class_ 247), (1, u "com/example/fixlore/fixlore/lang/GraphBuilder$Jump"), (9, .class_ 258), (0, u "com/example/fixlore/fixlore/lang/GraphBuilder$Loop"), (94, u "(III)V")] 75

def k2c0 : Code := { maxStack := 6, maxLocals := 5, code := prog_26_method_1_code, exceptionTable := #[], attributes := #[] }
def k2m0 : Method := { name := "<init>", desc := "(III)V", sig := { parameters := [.int, .int, .int], returnType := none }, accessFlags := 0, code := some k2c0 }
def k2c1 : Code := { maxStack := 8, maxLocals := 6, code := prog_26_method_2_code, exceptionTable := #[], attributes := #[] }
def k2m1 : Method := { name := "add", desc := "(Lcom/example/fixlore/fixlore/lang/SemanticGraph$Kind;Ljava/lang/String;II)I", sig := { parameters := [(.object "com/example/fixlore/fixlore/lang/SemanticGraph$Kind"), (.object "java/lang/String"), .int, .int], returnType := some .int }, accessFlags := 0, code := some k2c1 }
def k2c2 : Code := { maxStack := 3, maxLocals := 3, code := prog_26_method_14_code, exceptionTable := #[], attributes := #[] }
def k2m2 : Method := { name := "follow", desc := "(ILjava/lang/String;)V", sig := { parameters := [.int, (.object "java/lang/String")], returnType := none }, accessFlags := 0, code := some k2c2 }
def k2c3 : Code := { maxStack := 3, maxLocals := 2, code := prog_26_method_15_code, exceptionTable := #[], attributes := #[] }
def k2m3 : Method := { name := "suspend", desc := "()Ljava/util/List;", sig := { parameters := [], returnType := some (.object "java/util/List") }, accessFlags := 0, code := some k2c3 }
def k2c4 : Code := { maxStack := 5, maxLocals := 3, code := prog_26_method_17_code, exceptionTable := #[], attributes := #[] }
def k2m4 : Method := { name := "join", desc := "(ILjava/lang/String;)V", sig := { parameters := [.int, (.object "java/lang/String")], returnType := none }, accessFlags := 0, code := some k2c4 }
/-- com/example/fixlore/fixlore/lang/GraphBuilder -/
def k2 : Class := { plain "com/example/fixlore/fixlore/lang/GraphBuilder" (some 0) with
  accessFlags := 48
  interfaces := #[]
  cf := some (fileOf pool2 11 #[.nestMembers #[130, 92, 234, 242, 257, 232, 182, 245]] #[{ accessFlags := 0, nameIndex := 5, descriptorIndex := 353, attributes := #[] }, { accessFlags := 0, nameIndex := 62, descriptorIndex := 63, attributes := #[] }, { accessFlags := 0, nameIndex := 74, descriptorIndex := 75, attributes := #[] }, { accessFlags := 0, nameIndex := 188, descriptorIndex := 189, attributes := #[] }, { accessFlags := 0, nameIndex := 177, descriptorIndex := 75, attributes := #[] }] 48 2 #[] #[{ accessFlags := 18, nameIndex := 14, descriptorIndex := 15, attributes := #[] }, { accessFlags := 18, nameIndex := 18, descriptorIndex := 15, attributes := #[] }, { accessFlags := 18, nameIndex := 24, descriptorIndex := 25, attributes := #[] }, { accessFlags := 18, nameIndex := 31, descriptorIndex := 32, attributes := #[] }, { accessFlags := 18, nameIndex := 35, descriptorIndex := 25, attributes := #[] }, { accessFlags := 18, nameIndex := 41, descriptorIndex := 42, attributes := #[] }, { accessFlags := 18, nameIndex := 45, descriptorIndex := 15, attributes := #[] }, { accessFlags := 18, nameIndex := 48, descriptorIndex := 42, attributes := #[] }, { accessFlags := 2, nameIndex := 51, descriptorIndex := 15, attributes := #[] }, { accessFlags := 18, nameIndex := 68, descriptorIndex := 71, attributes := #[] }])
  fields := #[{ name := "nodes", type := (.object "java/util/List"), accessFlags := 18, slot := 0, constantValue := 0 }, { name := "edges", type := (.object "java/util/List"), accessFlags := 18, slot := 1, constantValue := 0 }, { name := "variables", type := (.object "java/util/Map"), accessFlags := 18, slot := 2, constantValue := 0 }, { name := "bound", type := (.object "java/util/Set"), accessFlags := 18, slot := 3, constantValue := 0 }, { name := "outsideNames", type := (.object "java/util/Map"), accessFlags := 18, slot := 4, constantValue := 0 }, { name := "frames", type := (.object "java/util/Deque"), accessFlags := 18, slot := 5, constantValue := 0 }, { name := "tryParts", type := (.object "java/util/List"), accessFlags := 18, slot := 6, constantValue := 0 }, { name := "openTryParts", type := (.object "java/util/Deque"), accessFlags := 18, slot := 7, constantValue := 0 }, { name := "pending", type := (.object "java/util/List"), accessFlags := 2, slot := 8, constantValue := 0 }, { name := "exit", type := .int, accessFlags := 18, slot := 9, constantValue := 0 }]
  methods := #[k2m0, k2m1, k2m2, k2m3, k2m4]
  instanceTypes := #[(.object "java/util/List"), (.object "java/util/List"), (.object "java/util/Map"), (.object "java/util/Set"), (.object "java/util/Map"), (.object "java/util/Deque"), (.object "java/util/List"), (.object "java/util/Deque"), (.object "java/util/List"), .int]
  staticTypes := #[]
  resolved := ((Array.replicate 429 none).set! 94 (some (.method ⟨29, 0⟩))).set! 92 (some (.cls 29))
  statics := none }

def pool3 : Array CpInfo := pool [(8, .class_ 10), (1, u "java/lang/Iterable"), (24, .class_ 36), (0, u "java/lang/Object")] 25

/-- java/lang/Iterable -/
def k3 : Class := { plain "java/lang/Iterable" (some 0) with
  accessFlags := 1537
  interfaces := #[]
  cf := some (fileOf pool3 8 #[] #[] 1537 35 #[] #[])
  fields := #[]
  methods := #[]
  instanceTypes := #[]
  staticTypes := #[]
  resolved := Array.replicate 62 none
  statics := none }

def pool4 : Array CpInfo := pool [(10, .class_ 12), (1, u "java/util/Collection"), (17, u "()Z"), (29, .class_ 61), (0, u "java/lang/Object"), (0, .class_ 63), (0, u "java/lang/Iterable"), (2, u "isEmpty")] 48

def k4m0 : Method := { name := "isEmpty", desc := "()Z", sig := { parameters := [], returnType := some .boolean }, accessFlags := 1025, code := none }
/-- java/util/Collection -/
def k4 : Class := { plain "java/util/Collection" (some 0) with
  accessFlags := 1537
  interfaces := #[3]
  cf := some (fileOf pool4 10 #[] #[{ accessFlags := 1025, nameIndex := 66, descriptorIndex := 30, attributes := #[] }] 1537 60 #[62] #[])
  fields := #[]
  methods := #[k4m0]
  instanceTypes := #[]
  staticTypes := #[]
  resolved := Array.replicate 115 none
  statics := none }

def pool5 : Array CpInfo := pool [(1, .methodref 2 3), (0, .class_ 4), (0, .nameAndType 5 6), (0, u "java/lang/Object"), (0, u "<init>"), (0, u "()V"), (1, .class_ 10), (1, u "java/util/AbstractCollection"), (66, .class_ 78), (0, u "java/util/Collection")] 81

def k5c0 : Code := { maxStack := 1, maxLocals := 1, code := jdk_22_method_1_code, exceptionTable := #[], attributes := #[] }
def k5m0 : Method := { name := "<init>", desc := "()V", sig := { parameters := [], returnType := none }, accessFlags := 4, code := some k5c0 }
/-- java/util/AbstractCollection -/
def k5 : Class := { plain "java/util/AbstractCollection" (some 0) with
  accessFlags := 1057
  interfaces := #[4]
  cf := some (fileOf pool5 8 #[] #[{ accessFlags := 4, nameIndex := 5, descriptorIndex := 6, attributes := #[] }] 1057 2 #[77] #[])
  fields := #[]
  methods := #[k5m0]
  instanceTypes := #[]
  staticTypes := #[]
  resolved := Array.replicate 160 none
  statics := none }

def pool6 : Array CpInfo := pool [(8, .class_ 10), (1, u "java/util/SequencedCollection"), (15, .class_ 27), (0, u "java/lang/Object"), (0, .class_ 29), (0, u "java/util/Collection")] 27

/-- java/util/SequencedCollection -/
def k6 : Class := { plain "java/util/SequencedCollection" (some 0) with
  accessFlags := 1537
  interfaces := #[4]
  cf := some (fileOf pool6 8 #[] #[] 1537 26 #[28] #[])
  fields := #[]
  methods := #[]
  instanceTypes := #[]
  staticTypes := #[]
  resolved := Array.replicate 57 none
  statics := none }

def pool7 : Array CpInfo := pool [(8, .class_ 10), (1, u "java/util/List"), (49, u "add"), (3, u "(Ljava/lang/Object;)Z"), (10, u "get"), (0, u "(I)Ljava/lang/Object;"), (2, u "size"), (0, u "()I"), (22, .class_ 104), (0, u "java/lang/Object"), (15, .class_ 121), (0, u "java/util/SequencedCollection")] 129

def k7m0 : Method := { name := "size", desc := "()I", sig := { parameters := [], returnType := some .int }, accessFlags := 1025, code := none }
def k7m1 : Method := { name := "add", desc := "(Ljava/lang/Object;)Z", sig := { parameters := [(.object "java/lang/Object")], returnType := some .boolean }, accessFlags := 1025, code := none }
def k7m2 : Method := { name := "get", desc := "(I)Ljava/lang/Object;", sig := { parameters := [.int], returnType := some (.object "java/lang/Object") }, accessFlags := 1025, code := none }
/-- java/util/List -/
def k7 : Class := { plain "java/util/List" (some 0) with
  accessFlags := 1537
  interfaces := #[6]
  cf := some (fileOf pool7 8 #[] #[{ accessFlags := 1025, nameIndex := 79, descriptorIndex := 80, attributes := #[] }, { accessFlags := 1025, nameIndex := 60, descriptorIndex := 64, attributes := #[] }, { accessFlags := 1025, nameIndex := 75, descriptorIndex := 76, attributes := #[] }] 1537 103 #[120] #[])
  fields := #[]
  methods := #[k7m0, k7m1, k7m2]
  instanceTypes := #[]
  staticTypes := #[]
  resolved := Array.replicate 251 none
  statics := none }

def pool8 : Array CpInfo := pool [(1, .methodref 2 3), (0, .class_ 4), (0, .nameAndType 5 6), (0, u "java/util/AbstractCollection"), (0, u "<init>"), (0, u "()V"), (0, .fieldref 8 9), (0, .class_ 10), (0, .nameAndType 11 12), (0, u "java/util/AbstractList"), (0, u "modCount"), (0, u "I"), (64, .class_ 78), (0, u "java/util/AbstractList$Itr"), (3, .class_ 83), (0, u "java/util/AbstractList$ListItr"), (9, .class_ 94), (0, u "java/util/AbstractList$RandomAccessSubList"), (3, .class_ 99), (0, u "java/util/AbstractList$SubList"), (33, .class_ 134), (0, u "java/util/List"), (73, .class_ 209), (0, u "java/util/AbstractList$SubList$1"), (0, .class_ 211), (0, u "java/util/AbstractList$RandomAccessSpliterator")] 6

def k8c0 : Code := { maxStack := 2, maxLocals := 1, code := jdk_39_method_1_code, exceptionTable := #[], attributes := #[] }
def k8m0 : Method := { name := "<init>", desc := "()V", sig := { parameters := [], returnType := none }, accessFlags := 4, code := some k8c0 }
/-- java/util/AbstractList -/
def k8 : Class := { plain "java/util/AbstractList" (some 5) with
  accessFlags := 1057
  interfaces := #[7]
  cf := some (fileOf pool8 8 #[.nestMembers #[93, 98, 208, 210, 82, 77]] #[{ accessFlags := 4, nameIndex := 5, descriptorIndex := 6, attributes := #[] }] 1057 2 #[133] #[{ accessFlags := 132, nameIndex := 11, descriptorIndex := 12, attributes := #[] }])
  fields := #[{ name := "modCount", type := .int, accessFlags := 132, slot := 0, constantValue := 0 }]
  methods := #[k8m0]
  instanceTypes := #[.int]
  staticTypes := #[]
  resolved := Array.replicate 218 none
  statics := none }

def pool9 : Array CpInfo := pool [(1, .class_ 2), (0, u "java/util/RandomAccess"), (0, .class_ 4), (0, u "java/lang/Object")] 2

/-- java/util/RandomAccess -/
def k9 : Class := { plain "java/util/RandomAccess" (some 0) with
  accessFlags := 1537
  interfaces := #[]
  cf := some (fileOf pool9 1 #[] #[] 1537 3 #[] #[])
  fields := #[]
  methods := #[]
  instanceTypes := #[]
  staticTypes := #[]
  resolved := Array.replicate 7 none
  statics := none }

def pool10 : Array CpInfo := pool [(1, .class_ 2), (0, u "java/lang/Cloneable"), (0, .class_ 4), (0, u "java/lang/Object")] 2

/-- java/lang/Cloneable -/
def k10 : Class := { plain "java/lang/Cloneable" (some 0) with
  accessFlags := 1537
  interfaces := #[]
  cf := some (fileOf pool10 1 #[] #[] 1537 3 #[] #[])
  fields := #[]
  methods := #[]
  instanceTypes := #[]
  staticTypes := #[]
  resolved := Array.replicate 7 none
  statics := none }

def pool11 : Array CpInfo := pool [(1, .class_ 2), (0, u "java/io/Serializable"), (0, .class_ 4), (0, u "java/lang/Object")] 2

/-- java/io/Serializable -/
def k11 : Class := { plain "java/io/Serializable" (some 0) with
  accessFlags := 1537
  interfaces := #[]
  cf := some (fileOf pool11 1 #[] #[] 1537 3 #[] #[])
  fields := #[]
  methods := #[]
  instanceTypes := #[]
  staticTypes := #[]
  resolved := Array.replicate 7 none
  statics := none }

def pool12 : Array CpInfo := pool [(1, .methodref 2 3), (0, .class_ 4), (0, .nameAndType 5 6), (0, u "java/util/AbstractList"), (0, u "<init>"), (0, u "()V"), (0, .class_ 8), (0, u "java/lang/Object"), (0, .fieldref 10 11), (0, .class_ 12), (0, .nameAndType 13 14), (0, u "java/util/ArrayList"), (0, u "elementData"), (0, u "[Ljava/lang/Object;"), (2, u "EMPTY_ELEMENTDATA"), (21, .fieldref 10 40), (0, .nameAndType 41 14), (0, u "DEFAULTCAPACITY_EMPTY_ELEMENTDATA"), (5, u "()[Ljava/lang/Object;"), (0, .fieldref 10 49), (0, .nameAndType 50 51), (0, u "size"), (0, u "I"), (11, .fieldref 10 64), (0, .nameAndType 65 51), (0, u "modCount"), (3, .methodref 10 70), (0, .nameAndType 71 72), (0, u "grow"), (0, u "(I)[Ljava/lang/Object;"), (6, .methodref 80 81), (0, .class_ 82), (0, .nameAndType 83 84), (0, u "java/lang/Math"), (0, u "max"), (0, u "(II)I"), (11, u "(Ljava/lang/Object;)Z"), (21, .methodref 119 120), (0, .class_ 121), (0, .nameAndType 122 84), (0, u "java/util/Objects"), (0, u "checkIndex"), (0, .methodref 10 124), (0, .nameAndType 13 125), (0, u "(I)Ljava/lang/Object;"), (3, .methodref 10 130), (0, .nameAndType 71 47), (0, .methodref 10 132), (0, .nameAndType 133 134), (0, u "add"), (0, u "(Ljava/lang/Object;[Ljava/lang/Object;I)V"), (13, .class_ 149), (0, u "java/util/List"), (36, u "()I"), (75, .class_ 263), (0, u "java/util/ArrayList$ListItr"), (3, .class_ 268), (0, u "java/util/ArrayList$Itr"), (7, .class_ 277), (0, u "java/util/ArrayList$SubList"), (12, .class_ 291), (0, u "java/util/ArrayList$ArrayListSpliterator"), (37, .class_ 330), (0, u "java/util/RandomAccess"), (0, .class_ 332), (0, u "java/lang/Cloneable"), (0, .class_ 334), (0, u "java/io/Serializable"), (0, u "serialVersionUID"), (0, u "J"), (3, u "DEFAULT_CAPACITY"), (40, u "get"), (118, .class_ 501), (0, u "java/util/ArrayList$SubList$2"), (0, .class_ 503), (0, u "java/util/ArrayList$SubList$1")] 5

def k12c0 : Code := { maxStack := 2, maxLocals := 1, code := jdk_38_method_2_code, exceptionTable := #[], attributes := #[] }
def k12m0 : Method := { name := "<init>", desc := "()V", sig := { parameters := [], returnType := none }, accessFlags := 1, code := some k12c0 }
def k12c1 : Code := { maxStack := 4, maxLocals := 4, code := jdk_38_method_6_code, exceptionTable := #[], attributes := #[] }
def k12m1 : Method := { name := "grow", desc := "(I)[Ljava/lang/Object;", sig := { parameters := [.int], returnType := some (.array (.object "java/lang/Object")) }, accessFlags := 2, code := some k12c1 }
def k12c2 : Code := { maxStack := 3, maxLocals := 1, code := jdk_38_method_7_code, exceptionTable := #[], attributes := #[] }
def k12m2 : Method := { name := "grow", desc := "()[Ljava/lang/Object;", sig := { parameters := [], returnType := some (.array (.object "java/lang/Object")) }, accessFlags := 2, code := some k12c2 }
def k12c3 : Code := { maxStack := 1, maxLocals := 1, code := jdk_38_method_8_code, exceptionTable := #[], attributes := #[] }
def k12m3 : Method := { name := "size", desc := "()I", sig := { parameters := [], returnType := some .int }, accessFlags := 1, code := some k12c3 }
def k12c4 : Code := { maxStack := 2, maxLocals := 2, code := jdk_38_method_18_code, exceptionTable := #[], attributes := #[] }
def k12m4 : Method := { name := "elementData", desc := "(I)Ljava/lang/Object;", sig := { parameters := [.int], returnType := some (.object "java/lang/Object") }, accessFlags := 0, code := some k12c4 }
def k12c5 : Code := { maxStack := 2, maxLocals := 2, code := jdk_38_method_20_code, exceptionTable := #[], attributes := #[] }
def k12m5 : Method := { name := "get", desc := "(I)Ljava/lang/Object;", sig := { parameters := [.int], returnType := some (.object "java/lang/Object") }, accessFlags := 1, code := some k12c5 }
def k12c6 : Code := { maxStack := 3, maxLocals := 4, code := jdk_38_method_24_code, exceptionTable := #[], attributes := #[] }
def k12m6 : Method := { name := "add", desc := "(Ljava/lang/Object;[Ljava/lang/Object;I)V", sig := { parameters := [(.object "java/lang/Object"), (.array (.object "java/lang/Object")), .int], returnType := none }, accessFlags := 2, code := some k12c6 }
def k12c7 : Code := { maxStack := 4, maxLocals := 2, code := jdk_38_method_25_code, exceptionTable := #[], attributes := #[] }
def k12m7 : Method := { name := "add", desc := "(Ljava/lang/Object;)Z", sig := { parameters := [(.object "java/lang/Object")], returnType := some .boolean }, accessFlags := 1, code := some k12c7 }
/-- java/util/ArrayList -/
def k12 : Class := { plain "java/util/ArrayList" (some 8) with
  accessFlags := 33
  interfaces := #[7, 9, 10, 11]
  cf := some (fileOf pool12 10 #[.nestMembers #[290, 276, 500, 502, 262, 267]] #[{ accessFlags := 1, nameIndex := 5, descriptorIndex := 6, attributes := #[] }, { accessFlags := 2, nameIndex := 71, descriptorIndex := 72, attributes := #[] }, { accessFlags := 2, nameIndex := 71, descriptorIndex := 47, attributes := #[] }, { accessFlags := 1, nameIndex := 50, descriptorIndex := 186, attributes := #[] }, { accessFlags := 0, nameIndex := 13, descriptorIndex := 125, attributes := #[] }, { accessFlags := 1, nameIndex := 381, descriptorIndex := 125, attributes := #[] }, { accessFlags := 2, nameIndex := 133, descriptorIndex := 134, attributes := #[] }, { accessFlags := 1, nameIndex := 133, descriptorIndex := 96, attributes := #[] }] 33 2 #[148, 329, 331, 333] #[{ accessFlags := 26, nameIndex := 335, descriptorIndex := 336, attributes := #[] }, { accessFlags := 26, nameIndex := 340, descriptorIndex := 51, attributes := #[] }, { accessFlags := 26, nameIndex := 17, descriptorIndex := 14, attributes := #[] }, { accessFlags := 26, nameIndex := 41, descriptorIndex := 14, attributes := #[] }, { accessFlags := 128, nameIndex := 13, descriptorIndex := 14, attributes := #[] }, { accessFlags := 2, nameIndex := 50, descriptorIndex := 51, attributes := #[] }])
  fields := #[{ name := "serialVersionUID", type := .long, accessFlags := 26, slot := 0, constantValue := 0 }, { name := "DEFAULT_CAPACITY", type := .int, accessFlags := 26, slot := 1, constantValue := 0 }, { name := "EMPTY_ELEMENTDATA", type := (.array (.object "java/lang/Object")), accessFlags := 26, slot := 2, constantValue := 0 }, { name := "DEFAULTCAPACITY_EMPTY_ELEMENTDATA", type := (.array (.object "java/lang/Object")), accessFlags := 26, slot := 3, constantValue := 0 }, { name := "elementData", type := (.array (.object "java/lang/Object")), accessFlags := 128, slot := 1, constantValue := 0 }, { name := "size", type := .int, accessFlags := 2, slot := 2, constantValue := 0 }]
  methods := #[k12m0, k12m1, k12m2, k12m3, k12m4, k12m5, k12m6, k12m7]
  instanceTypes := #[.int, (.array (.object "java/lang/Object")), .int]
  staticTypes := #[.long, .int, (.array (.object "java/lang/Object")), (.array (.object "java/lang/Object"))]
  resolved := Array.replicate 509 none
  statics := some 0 }

def pool13 : Array CpInfo := pool [(2, .class_ 4), (1, u "java/util/Map"), (31, .class_ 37), (0, u "java/util/Map$Entry"), (55, .class_ 94), (0, u "java/lang/Object")] 168

/-- java/util/Map -/
def k13 : Class := { plain "java/util/Map" (some 0) with
  accessFlags := 1537
  interfaces := #[]
  cf := some (fileOf pool13 2 #[.nestMembers #[36]] #[] 1537 93 #[] #[])
  fields := #[]
  methods := #[]
  instanceTypes := #[]
  staticTypes := #[]
  resolved := Array.replicate 263 none
  statics := none }

def pool14 : Array CpInfo := pool [(1, .methodref 2 3), (0, .class_ 4), (0, .nameAndType 5 6), (0, u "java/lang/Object"), (0, u "<init>"), (0, u "()V"), (1, .class_ 10), (1, u "java/util/AbstractMap"), (42, .class_ 54), (0, u "java/util/Map"), (9, u "keySet"), (0, u "Ljava/util/Set;"), (0, .class_ 67), (0, u "java/util/AbstractMap$1"), (5, u "values"), (0, u "Ljava/util/Collection;"), (0, .class_ 76), (0, u "java/util/AbstractMap$2"), (104, .class_ 182), (0, u "java/util/AbstractMap$ViewCollection"), (0, .class_ 184), (0, u "java/util/AbstractMap$SimpleImmutableEntry"), (0, .class_ 186), (0, u "java/util/AbstractMap$SimpleEntry"), (0, .class_ 188), (0, u "java/util/AbstractMap$2$1"), (0, .class_ 190), (0, u "java/util/AbstractMap$1$1")] 5

def k14c0 : Code := { maxStack := 1, maxLocals := 1, code := jdk_71_method_1_code, exceptionTable := #[], attributes := #[] }
def k14m0 : Method := { name := "<init>", desc := "()V", sig := { parameters := [], returnType := none }, accessFlags := 4, code := some k14c0 }
/-- java/util/AbstractMap -/
def k14 : Class := { plain "java/util/AbstractMap" (some 0) with
  accessFlags := 1057
  interfaces := #[13]
  cf := some (fileOf pool14 8 #[.nestMembers #[181, 183, 185, 75, 187, 66, 189]] #[{ accessFlags := 4, nameIndex := 5, descriptorIndex := 6, attributes := #[] }] 1057 2 #[53] #[{ accessFlags := 128, nameIndex := 64, descriptorIndex := 65, attributes := #[] }, { accessFlags := 128, nameIndex := 73, descriptorIndex := 74, attributes := #[] }])
  fields := #[{ name := "keySet", type := (.object "java/util/Set"), accessFlags := 128, slot := 0, constantValue := 0 }, { name := "values", type := (.object "java/util/Collection"), accessFlags := 128, slot := 1, constantValue := 0 }]
  methods := #[k14m0]
  instanceTypes := #[(.object "java/util/Set"), (.object "java/util/Collection")]
  staticTypes := #[]
  resolved := Array.replicate 196 none
  statics := none }

def pool15 : Array CpInfo := pool [(40, .class_ 41), (0, u "java/util/HashMap"), (1, .methodref 44 45), (0, .class_ 46), (0, .nameAndType 47 48), (0, u "java/util/AbstractMap"), (0, u "<init>"), (0, u "()V"), (32, .fieldref 40 82), (0, .nameAndType 83 84), (0, u "loadFactor"), (0, u "F"), (5, u "threshold"), (0, u "I"), (0, .float 1061158912), (8, .class_ 103), (1, u "java/util/Map"), (0, u "size"), (2, u "table"), (0, u "[Ljava/util/HashMap$Node;"), (14, u "entrySet"), (39, .class_ 165), (1, u "java/util/HashMap$Node"), (14, .class_ 181), (0, u "java/util/HashMap$TreeNode"), (22, u "modCount"), (37, u "Ljava/util/Set;"), (0, .class_ 244), (0, u "java/util/HashMap$KeySet"), (18, .class_ 264), (0, u "java/util/HashMap$Values"), (3, .class_ 269), (0, u "java/util/HashMap$EntrySet"), (76, .class_ 348), (1, u "java/util/HashMap$UnsafeHolder"), (43, .class_ 393), (0, u "java/lang/Cloneable"), (0, .class_ 395), (0, u "java/io/Serializable"), (0, u "serialVersionUID"), (0, u "J"), (3, u "DEFAULT_INITIAL_CAPACITY"), (1, u "MAXIMUM_CAPACITY"), (0, u "DEFAULT_LOAD_FACTOR"), (0, u "TREEIFY_THRESHOLD"), (1, u "UNTREEIFY_THRESHOLD"), (1, u "MIN_TREEIFY_CAPACITY"), (186, .class_ 597), (0, u "java/util/HashMap$EntrySpliterator"), (0, .class_ 599), (0, u "java/util/HashMap$ValueSpliterator"), (0, .class_ 601), (0, u "java/util/HashMap$KeySpliterator"), (0, .class_ 603), (0, u "java/util/HashMap$HashMapSpliterator"), (0, .class_ 605), (0, u "java/util/HashMap$EntryIterator"), (0, .class_ 607), (0, u "java/util/HashMap$ValueIterator"), (0, .class_ 609), (0, u "java/util/HashMap$KeyIterator"), (0, .class_ 611), (0, u "java/util/HashMap$HashIterator")] 17

def k15c0 : Code := { maxStack := 2, maxLocals := 1, code := jdk_69_method_7_code, exceptionTable := #[], attributes := #[] }
def k15m0 : Method := { name := "<init>", desc := "()V", sig := { parameters := [], returnType := none }, accessFlags := 1, code := some k15c0 }
/-- java/util/HashMap -/
def k15 : Class := { plain "java/util/HashMap" (some 14) with
  accessFlags := 33
  interfaces := #[13, 10, 11]
  cf := some (fileOf pool15 40 #[.nestMembers #[180, 596, 598, 600, 602, 604, 606, 608, 610, 346, 268, 263, 243, 163]] #[{ accessFlags := 1, nameIndex := 47, descriptorIndex := 48, attributes := #[] }] 33 44 #[101, 392, 394] #[{ accessFlags := 26, nameIndex := 396, descriptorIndex := 397, attributes := #[] }, { accessFlags := 24, nameIndex := 401, descriptorIndex := 91, attributes := #[] }, { accessFlags := 24, nameIndex := 403, descriptorIndex := 91, attributes := #[] }, { accessFlags := 24, nameIndex := 404, descriptorIndex := 84, attributes := #[] }, { accessFlags := 24, nameIndex := 405, descriptorIndex := 91, attributes := #[] }, { accessFlags := 24, nameIndex := 407, descriptorIndex := 91, attributes := #[] }, { accessFlags := 24, nameIndex := 409, descriptorIndex := 91, attributes := #[] }, { accessFlags := 128, nameIndex := 107, descriptorIndex := 108, attributes := #[] }, { accessFlags := 128, nameIndex := 123, descriptorIndex := 242, attributes := #[] }, { accessFlags := 128, nameIndex := 104, descriptorIndex := 91, attributes := #[] }, { accessFlags := 128, nameIndex := 204, descriptorIndex := 91, attributes := #[] }, { accessFlags := 0, nameIndex := 90, descriptorIndex := 91, attributes := #[] }, { accessFlags := 16, nameIndex := 83, descriptorIndex := 84, attributes := #[] }])
  fields := #[{ name := "serialVersionUID", type := .long, accessFlags := 26, slot := 0, constantValue := 0 }, { name := "DEFAULT_INITIAL_CAPACITY", type := .int, accessFlags := 24, slot := 1, constantValue := 0 }, { name := "MAXIMUM_CAPACITY", type := .int, accessFlags := 24, slot := 2, constantValue := 0 }, { name := "DEFAULT_LOAD_FACTOR", type := .float, accessFlags := 24, slot := 3, constantValue := 0 }, { name := "TREEIFY_THRESHOLD", type := .int, accessFlags := 24, slot := 4, constantValue := 0 }, { name := "UNTREEIFY_THRESHOLD", type := .int, accessFlags := 24, slot := 5, constantValue := 0 }, { name := "MIN_TREEIFY_CAPACITY", type := .int, accessFlags := 24, slot := 6, constantValue := 0 }, { name := "table", type := (.array (.object "java/util/HashMap$Node")), accessFlags := 128, slot := 2, constantValue := 0 }, { name := "entrySet", type := (.object "java/util/Set"), accessFlags := 128, slot := 3, constantValue := 0 }, { name := "size", type := .int, accessFlags := 128, slot := 4, constantValue := 0 }, { name := "modCount", type := .int, accessFlags := 128, slot := 5, constantValue := 0 }, { name := "threshold", type := .int, accessFlags := 0, slot := 6, constantValue := 0 }, { name := "loadFactor", type := .float, accessFlags := 16, slot := 7, constantValue := 0 }]
  methods := #[k15m0]
  instanceTypes := #[(.object "java/util/Set"), (.object "java/util/Collection"), (.array (.object "java/util/HashMap$Node")), (.object "java/util/Set"), .int, .int, .int, .float]
  staticTypes := #[.long, .int, .int, .float, .int, .int, .int]
  resolved := Array.replicate 629 none
  statics := none }

def pool16 : Array CpInfo := pool [(26, .class_ 27), (0, u "java/lang/Object"), (5, .class_ 34), (0, u "java/util/Set"), (1, .class_ 38), (1, u "java/util/Collection")] 105

/-- java/util/Set -/
def k16 : Class := { plain "java/util/Set" (some 0) with
  accessFlags := 1537
  interfaces := #[4]
  cf := some (fileOf pool16 33 #[] #[] 1537 26 #[36] #[])
  fields := #[]
  methods := #[]
  instanceTypes := #[]
  staticTypes := #[]
  resolved := Array.replicate 144 none
  statics := none }

def pool17 : Array CpInfo := pool [(1, .methodref 2 3), (0, .class_ 4), (0, .nameAndType 5 6), (0, u "java/util/AbstractCollection"), (0, u "<init>"), (0, u "()V"), (0, .class_ 8), (0, u "java/util/Set"), (7, .class_ 17), (0, u "java/util/AbstractSet")] 78

def k17c0 : Code := { maxStack := 1, maxLocals := 1, code := jdk_91_method_1_code, exceptionTable := #[], attributes := #[] }
def k17m0 : Method := { name := "<init>", desc := "()V", sig := { parameters := [], returnType := none }, accessFlags := 4, code := some k17c0 }
/-- java/util/AbstractSet -/
def k17 : Class := { plain "java/util/AbstractSet" (some 5) with
  accessFlags := 1057
  interfaces := #[16]
  cf := some (fileOf pool17 16 #[] #[{ accessFlags := 4, nameIndex := 5, descriptorIndex := 6, attributes := #[] }] 1057 2 #[7] #[])
  fields := #[]
  methods := #[k17m0]
  instanceTypes := #[]
  staticTypes := #[]
  resolved := Array.replicate 96 none
  statics := none }

def pool18 : Array CpInfo := pool [(1, .methodref 2 3), (0, .class_ 4), (0, .nameAndType 5 6), (0, u "java/util/AbstractSet"), (0, u "<init>"), (0, u "()V"), (0, .class_ 8), (0, u "java/util/HashMap"), (0, .methodref 7 3), (0, .fieldref 11 12), (0, .class_ 13), (0, .nameAndType 14 15), (0, u "java/util/HashSet"), (0, u "map"), (0, u "Ljava/util/HashMap;"), (34, .class_ 52), (1, u "java/util/Set"), (13, u "PRESENT"), (0, u "Ljava/lang/Object;"), (158, .class_ 227), (0, u "java/lang/Cloneable"), (0, .class_ 229), (0, u "java/io/Serializable"), (0, u "serialVersionUID"), (0, u "J")] 71

def k18c0 : Code := { maxStack := 3, maxLocals := 1, code := jdk_93_method_1_code, exceptionTable := #[], attributes := #[] }
def k18m0 : Method := { name := "<init>", desc := "()V", sig := { parameters := [], returnType := none }, accessFlags := 1, code := some k18c0 }
/-- java/util/HashSet -/
def k18 : Class := { plain "java/util/HashSet" (some 17) with
  accessFlags := 33
  interfaces := #[16, 10, 11]
  cf := some (fileOf pool18 11 #[] #[{ accessFlags := 1, nameIndex := 5, descriptorIndex := 6, attributes := #[] }] 33 2 #[50, 226, 228] #[{ accessFlags := 24, nameIndex := 230, descriptorIndex := 231, attributes := #[] }, { accessFlags := 128, nameIndex := 14, descriptorIndex := 15, attributes := #[] }, { accessFlags := 24, nameIndex := 66, descriptorIndex := 67, attributes := #[] }])
  fields := #[{ name := "serialVersionUID", type := .long, accessFlags := 24, slot := 0, constantValue := 0 }, { name := "map", type := (.object "java/util/HashMap"), accessFlags := 128, slot := 0, constantValue := 0 }, { name := "PRESENT", type := (.object "java/lang/Object"), accessFlags := 24, slot := 1, constantValue := 0 }]
  methods := #[k18m0]
  instanceTypes := #[(.object "java/util/HashMap")]
  staticTypes := #[.long, (.object "java/lang/Object")]
  resolved := Array.replicate 303 none
  statics := none }

def pool19 : Array CpInfo := pool [(1, .class_ 2), (0, u "java/util/Queue"), (0, .class_ 4), (0, u "java/lang/Object"), (0, .class_ 6), (0, u "java/util/Collection")] 14

/-- java/util/Queue -/
def k19 : Class := { plain "java/util/Queue" (some 0) with
  accessFlags := 1537
  interfaces := #[4]
  cf := some (fileOf pool19 1 #[] #[] 1537 3 #[5] #[])
  fields := #[]
  methods := #[]
  instanceTypes := #[]
  staticTypes := #[]
  resolved := Array.replicate 21 none
  statics := none }

def pool20 : Array CpInfo := pool [(8, .class_ 10), (1, u "java/util/Deque"), (2, .class_ 14), (0, u "java/lang/Object"), (0, .class_ 16), (0, u "java/util/Queue"), (0, .class_ 18), (0, u "java/util/SequencedCollection")] 51

/-- java/util/Deque -/
def k20 : Class := { plain "java/util/Deque" (some 0) with
  accessFlags := 1537
  interfaces := #[19, 6]
  cf := some (fileOf pool20 8 #[] #[] 1537 13 #[15, 17] #[])
  fields := #[]
  methods := #[]
  instanceTypes := #[]
  staticTypes := #[]
  resolved := Array.replicate 70 none
  statics := none }

def pool21 : Array CpInfo := pool [(3, .fieldref 4 5), (0, .class_ 6), (0, .nameAndType 7 8), (0, u "java/util/ArrayDeque"), (0, u "elements"), (0, u "[Ljava/lang/Object;"), (11, .fieldref 4 21), (0, .nameAndType 22 23), (0, u "tail"), (0, u "I"), (0, .fieldref 4 25), (0, .nameAndType 26 23), (0, u "head"), (12, u "<init>"), (2, .methodref 43 44), (0, .class_ 45), (0, .nameAndType 39 46), (0, u "java/util/AbstractCollection"), (0, u "()V"), (0, .class_ 48), (0, u "java/lang/Object"), (82, .class_ 132), (0, u "java/util/ArrayDeque$DeqIterator"), (3, .class_ 137), (0, u "java/util/ArrayDeque$DescendingIterator"), (1, .class_ 140), (0, u "java/util/ArrayDeque$DeqSpliterator"), (137, .class_ 279), (0, u "java/util/Deque"), (0, .class_ 281), (0, u "java/lang/Cloneable"), (0, .class_ 283), (0, u "java/io/Serializable"), (0, u "MAX_ARRAY_SIZE"), (1, u "serialVersionUID"), (0, u "J"), (59, u "isEmpty"), (0, u "()Z")] 89

def k21c0 : Code := { maxStack := 2, maxLocals := 1, code := jdk_21_method_3_code, exceptionTable := #[], attributes := #[] }
def k21m0 : Method := { name := "<init>", desc := "()V", sig := { parameters := [], returnType := none }, accessFlags := 1, code := some k21c0 }
def k21c1 : Code := { maxStack := 2, maxLocals := 1, code := jdk_21_method_38_code, exceptionTable := #[], attributes := #[] }
def k21m1 : Method := { name := "isEmpty", desc := "()Z", sig := { parameters := [], returnType := some .boolean }, accessFlags := 1, code := some k21c1 }
/-- java/util/ArrayDeque -/
def k21 : Class := { plain "java/util/ArrayDeque" (some 5) with
  accessFlags := 33
  interfaces := #[20, 10, 11]
  cf := some (fileOf pool21 4 #[.nestMembers #[139, 136, 131]] #[{ accessFlags := 1, nameIndex := 39, descriptorIndex := 46, attributes := #[] }, { accessFlags := 1, nameIndex := 347, descriptorIndex := 348, attributes := #[] }] 33 43 #[278, 280, 282] #[{ accessFlags := 128, nameIndex := 7, descriptorIndex := 8, attributes := #[] }, { accessFlags := 128, nameIndex := 26, descriptorIndex := 23, attributes := #[] }, { accessFlags := 128, nameIndex := 22, descriptorIndex := 23, attributes := #[] }, { accessFlags := 26, nameIndex := 284, descriptorIndex := 23, attributes := #[] }, { accessFlags := 26, nameIndex := 286, descriptorIndex := 287, attributes := #[] }])
  fields := #[{ name := "elements", type := (.array (.object "java/lang/Object")), accessFlags := 128, slot := 0, constantValue := 0 }, { name := "head", type := .int, accessFlags := 128, slot := 1, constantValue := 0 }, { name := "tail", type := .int, accessFlags := 128, slot := 2, constantValue := 0 }, { name := "MAX_ARRAY_SIZE", type := .int, accessFlags := 26, slot := 0, constantValue := 0 }, { name := "serialVersionUID", type := .long, accessFlags := 26, slot := 1, constantValue := 0 }]
  methods := #[k21m0, k21m1]
  instanceTypes := #[(.array (.object "java/lang/Object")), .int, .int]
  staticTypes := #[.int, .long]
  resolved := Array.replicate 438 none
  statics := none }

def pool22 : Array CpInfo := pool [(1, .class_ 2), (0, u "java/lang/constant/Constable"), (0, .class_ 4), (0, u "java/lang/Object")] 6

/-- java/lang/constant/Constable -/
def k22 : Class := { plain "java/lang/constant/Constable" (some 0) with
  accessFlags := 1537
  interfaces := #[]
  cf := some (fileOf pool22 1 #[] #[] 1537 3 #[] #[])
  fields := #[]
  methods := #[]
  instanceTypes := #[]
  staticTypes := #[]
  resolved := Array.replicate 11 none
  statics := none }

def pool23 : Array CpInfo := pool [(1, .class_ 2), (0, u "java/lang/Comparable"), (0, .class_ 4), (0, u "java/lang/Object")] 7

/-- java/lang/Comparable -/
def k23 : Class := { plain "java/lang/Comparable" (some 0) with
  accessFlags := 1537
  interfaces := #[]
  cf := some (fileOf pool23 1 #[] #[] 1537 3 #[] #[])
  fields := #[]
  methods := #[]
  instanceTypes := #[]
  staticTypes := #[]
  resolved := Array.replicate 12 none
  statics := none }

def pool24 : Array CpInfo := pool [(2, .class_ 4), (1, u "java/lang/Enum"), (0, u "name"), (0, u "Ljava/lang/String;"), (2, u "ordinal"), (0, u "I"), (1, .class_ 14), (1, u "java/lang/Object"), (4, u "hash"), (86, .class_ 108), (1, u "java/lang/Enum$EnumDesc"), (2, .class_ 112), (0, u "java/lang/constant/Constable"), (0, .class_ 114), (0, u "java/lang/Comparable"), (0, .class_ 116), (0, u "java/io/Serializable")] 87

/-- java/lang/Enum -/
def k24 : Class := { plain "java/lang/Enum" (some 0) with
  accessFlags := 1057
  interfaces := #[22, 23, 11]
  cf := some (fileOf pool24 2 #[.nestMembers #[106]] #[] 1057 12 #[111, 113, 115] #[{ accessFlags := 18, nameIndex := 5, descriptorIndex := 6, attributes := #[] }, { accessFlags := 18, nameIndex := 9, descriptorIndex := 10, attributes := #[] }, { accessFlags := 2, nameIndex := 19, descriptorIndex := 10, attributes := #[] }])
  fields := #[{ name := "name", type := (.object "java/lang/String"), accessFlags := 18, slot := 0, constantValue := 0 }, { name := "ordinal", type := .int, accessFlags := 18, slot := 1, constantValue := 0 }, { name := "hash", type := .int, accessFlags := 2, slot := 2, constantValue := 0 }]
  methods := #[]
  instanceTypes := #[(.object "java/lang/String"), .int, .int]
  staticTypes := #[]
  resolved := Array.replicate 204 none
  statics := none }

def pool25 : Array CpInfo := pool [(1, .class_ 2), (0, u "com/example/fixlore/fixlore/lang/SemanticGraph$Kind"), (2, u "ENTRY"), (0, u "Lcom/example/fixlore/fixlore/lang/SemanticGraph$Kind;"), (2, u "EXIT"), (2, u "DATA"), (2, u "NAME"), (2, u "CALL"), (2, u "OP"), (2, u "CONST"), (2, u "CONTROL"), (2, u "ASSIGN"), (2, u "EXPR"), (2, u "RETURN"), (2, u "RAISE"), (2, u "BREAK"), (2, u "CONTINUE"), (2, u "PASS"), (2, u "DELETE"), (2, u "ASSERT"), (2, u "IMPORT"), (2, u "FUNCTION"), (2, u "CLASS"), (2, u "DECLARE"), (2, u "EXCEPT"), (2, u "CASE"), (2, u "$VALUES"), (0, u "[Lcom/example/fixlore/fixlore/lang/SemanticGraph$Kind;"), (6, .class_ 85), (1, u "java/lang/Enum"), (24, u "lowerCase"), (0, u "Ljava/lang/String;"), (40, .class_ 153), (0, u "com/example/fixlore/fixlore/lang/SemanticGraph")] 2

/-- com/example/fixlore/fixlore/lang/SemanticGraph$Kind -/
def k25 : Class := { plain "com/example/fixlore/fixlore/lang/SemanticGraph$Kind" (some 24) with
  accessFlags := 16433
  interfaces := #[]
  cf := some (fileOf pool25 1 #[.nestHost 152] #[] 16433 83 #[] #[{ accessFlags := 16409, nameIndex := 5, descriptorIndex := 6, attributes := #[] }, { accessFlags := 16409, nameIndex := 9, descriptorIndex := 6, attributes := #[] }, { accessFlags := 16409, nameIndex := 12, descriptorIndex := 6, attributes := #[] }, { accessFlags := 16409, nameIndex := 15, descriptorIndex := 6, attributes := #[] }, { accessFlags := 16409, nameIndex := 18, descriptorIndex := 6, attributes := #[] }, { accessFlags := 16409, nameIndex := 21, descriptorIndex := 6, attributes := #[] }, { accessFlags := 16409, nameIndex := 24, descriptorIndex := 6, attributes := #[] }, { accessFlags := 16409, nameIndex := 27, descriptorIndex := 6, attributes := #[] }, { accessFlags := 16409, nameIndex := 30, descriptorIndex := 6, attributes := #[] }, { accessFlags := 16409, nameIndex := 33, descriptorIndex := 6, attributes := #[] }, { accessFlags := 16409, nameIndex := 36, descriptorIndex := 6, attributes := #[] }, { accessFlags := 16409, nameIndex := 39, descriptorIndex := 6, attributes := #[] }, { accessFlags := 16409, nameIndex := 42, descriptorIndex := 6, attributes := #[] }, { accessFlags := 16409, nameIndex := 45, descriptorIndex := 6, attributes := #[] }, { accessFlags := 16409, nameIndex := 48, descriptorIndex := 6, attributes := #[] }, { accessFlags := 16409, nameIndex := 51, descriptorIndex := 6, attributes := #[] }, { accessFlags := 16409, nameIndex := 54, descriptorIndex := 6, attributes := #[] }, { accessFlags := 16409, nameIndex := 57, descriptorIndex := 6, attributes := #[] }, { accessFlags := 16409, nameIndex := 60, descriptorIndex := 6, attributes := #[] }, { accessFlags := 16409, nameIndex := 63, descriptorIndex := 6, attributes := #[] }, { accessFlags := 16409, nameIndex := 66, descriptorIndex := 6, attributes := #[] }, { accessFlags := 16409, nameIndex := 69, descriptorIndex := 6, attributes := #[] }, { accessFlags := 16409, nameIndex := 72, descriptorIndex := 6, attributes := #[] }, { accessFlags := 18, nameIndex := 110, descriptorIndex := 111, attributes := #[] }, { accessFlags := 4122, nameIndex := 75, descriptorIndex := 76, attributes := #[] }])
  fields := #[{ name := "ENTRY", type := (.object "com/example/fixlore/fixlore/lang/SemanticGraph$Kind"), accessFlags := 16409, slot := 0, constantValue := 0 }, { name := "EXIT", type := (.object "com/example/fixlore/fixlore/lang/SemanticGraph$Kind"), accessFlags := 16409, slot := 1, constantValue := 0 }, { name := "DATA", type := (.object "com/example/fixlore/fixlore/lang/SemanticGraph$Kind"), accessFlags := 16409, slot := 2, constantValue := 0 }, { name := "NAME", type := (.object "com/example/fixlore/fixlore/lang/SemanticGraph$Kind"), accessFlags := 16409, slot := 3, constantValue := 0 }, { name := "CALL", type := (.object "com/example/fixlore/fixlore/lang/SemanticGraph$Kind"), accessFlags := 16409, slot := 4, constantValue := 0 }, { name := "OP", type := (.object "com/example/fixlore/fixlore/lang/SemanticGraph$Kind"), accessFlags := 16409, slot := 5, constantValue := 0 }, { name := "CONST", type := (.object "com/example/fixlore/fixlore/lang/SemanticGraph$Kind"), accessFlags := 16409, slot := 6, constantValue := 0 }, { name := "CONTROL", type := (.object "com/example/fixlore/fixlore/lang/SemanticGraph$Kind"), accessFlags := 16409, slot := 7, constantValue := 0 }, { name := "ASSIGN", type := (.object "com/example/fixlore/fixlore/lang/SemanticGraph$Kind"), accessFlags := 16409, slot := 8, constantValue := 0 }, { name := "EXPR", type := (.object "com/example/fixlore/fixlore/lang/SemanticGraph$Kind"), accessFlags := 16409, slot := 9, constantValue := 0 }, { name := "RETURN", type := (.object "com/example/fixlore/fixlore/lang/SemanticGraph$Kind"), accessFlags := 16409, slot := 10, constantValue := 0 }, { name := "RAISE", type := (.object "com/example/fixlore/fixlore/lang/SemanticGraph$Kind"), accessFlags := 16409, slot := 11, constantValue := 0 }, { name := "BREAK", type := (.object "com/example/fixlore/fixlore/lang/SemanticGraph$Kind"), accessFlags := 16409, slot := 12, constantValue := 0 }, { name := "CONTINUE", type := (.object "com/example/fixlore/fixlore/lang/SemanticGraph$Kind"), accessFlags := 16409, slot := 13, constantValue := 0 }, { name := "PASS", type := (.object "com/example/fixlore/fixlore/lang/SemanticGraph$Kind"), accessFlags := 16409, slot := 14, constantValue := 0 }, { name := "DELETE", type := (.object "com/example/fixlore/fixlore/lang/SemanticGraph$Kind"), accessFlags := 16409, slot := 15, constantValue := 0 }, { name := "ASSERT", type := (.object "com/example/fixlore/fixlore/lang/SemanticGraph$Kind"), accessFlags := 16409, slot := 16, constantValue := 0 }, { name := "IMPORT", type := (.object "com/example/fixlore/fixlore/lang/SemanticGraph$Kind"), accessFlags := 16409, slot := 17, constantValue := 0 }, { name := "FUNCTION", type := (.object "com/example/fixlore/fixlore/lang/SemanticGraph$Kind"), accessFlags := 16409, slot := 18, constantValue := 0 }, { name := "CLASS", type := (.object "com/example/fixlore/fixlore/lang/SemanticGraph$Kind"), accessFlags := 16409, slot := 19, constantValue := 0 }, { name := "DECLARE", type := (.object "com/example/fixlore/fixlore/lang/SemanticGraph$Kind"), accessFlags := 16409, slot := 20, constantValue := 0 }, { name := "EXCEPT", type := (.object "com/example/fixlore/fixlore/lang/SemanticGraph$Kind"), accessFlags := 16409, slot := 21, constantValue := 0 }, { name := "CASE", type := (.object "com/example/fixlore/fixlore/lang/SemanticGraph$Kind"), accessFlags := 16409, slot := 22, constantValue := 0 }, { name := "lowerCase", type := (.object "java/lang/String"), accessFlags := 18, slot := 3, constantValue := 0 }, { name := "$VALUES", type := (.array (.object "com/example/fixlore/fixlore/lang/SemanticGraph$Kind")), accessFlags := 4122, slot := 23, constantValue := 0 }]
  methods := #[]
  instanceTypes := #[(.object "java/lang/String"), .int, .int, (.object "java/lang/String")]
  staticTypes := #[(.object "com/example/fixlore/fixlore/lang/SemanticGraph$Kind"), (.object "com/example/fixlore/fixlore/lang/SemanticGraph$Kind"), (.object "com/example/fixlore/fixlore/lang/SemanticGraph$Kind"), (.object "com/example/fixlore/fixlore/lang/SemanticGraph$Kind"), (.object "com/example/fixlore/fixlore/lang/SemanticGraph$Kind"), (.object "com/example/fixlore/fixlore/lang/SemanticGraph$Kind"), (.object "com/example/fixlore/fixlore/lang/SemanticGraph$Kind"), (.object "com/example/fixlore/fixlore/lang/SemanticGraph$Kind"), (.object "com/example/fixlore/fixlore/lang/SemanticGraph$Kind"), (.object "com/example/fixlore/fixlore/lang/SemanticGraph$Kind"), (.object "com/example/fixlore/fixlore/lang/SemanticGraph$Kind"), (.object "com/example/fixlore/fixlore/lang/SemanticGraph$Kind"), (.object "com/example/fixlore/fixlore/lang/SemanticGraph$Kind"), (.object "com/example/fixlore/fixlore/lang/SemanticGraph$Kind"), (.object "com/example/fixlore/fixlore/lang/SemanticGraph$Kind"), (.object "com/example/fixlore/fixlore/lang/SemanticGraph$Kind"), (.object "com/example/fixlore/fixlore/lang/SemanticGraph$Kind"), (.object "com/example/fixlore/fixlore/lang/SemanticGraph$Kind"), (.object "com/example/fixlore/fixlore/lang/SemanticGraph$Kind"), (.object "com/example/fixlore/fixlore/lang/SemanticGraph$Kind"), (.object "com/example/fixlore/fixlore/lang/SemanticGraph$Kind"), (.object "com/example/fixlore/fixlore/lang/SemanticGraph$Kind"), (.object "com/example/fixlore/fixlore/lang/SemanticGraph$Kind"), (.array (.object "com/example/fixlore/fixlore/lang/SemanticGraph$Kind"))]
  resolved := Array.replicate 156 none
  statics := some 1 }

def pool26 : Array CpInfo := pool [(2, .class_ 4), (1, u "java/lang/CharSequence"), (42, .class_ 48), (0, u "java/lang/CharSequence$1CodePointIterator"), (10, .class_ 60), (0, u "java/lang/CharSequence$1CharIterator"), (5, .class_ 67), (0, u "java/lang/Object")] 63

/-- java/lang/CharSequence -/
def k26 : Class := { plain "java/lang/CharSequence" (some 0) with
  accessFlags := 1537
  interfaces := #[]
  cf := some (fileOf pool26 2 #[.nestMembers #[47, 59]] #[] 1537 66 #[] #[])
  fields := #[]
  methods := #[]
  instanceTypes := #[]
  staticTypes := #[]
  resolved := Array.replicate 131 none
  statics := none }

def pool27 : Array CpInfo := pool [(1, .class_ 2), (0, u "java/lang/constant/ConstantDesc"), (0, .class_ 4), (0, u "java/lang/Object")] 32

/-- java/lang/constant/ConstantDesc -/
def k27 : Class := { plain "java/lang/constant/ConstantDesc" (some 0) with
  accessFlags := 1537
  interfaces := #[]
  cf := some (fileOf pool27 1 #[] #[] 1537 3 #[] #[])
  fields := #[]
  methods := #[]
  instanceTypes := #[]
  staticTypes := #[]
  resolved := Array.replicate 37 none
  statics := none }

def pool28 : Array CpInfo := pool [(1, .methodref 2 3), (0, .class_ 4), (0, .nameAndType 5 6), (0, u "java/lang/Object"), (0, u "<init>"), (0, u "()V"), (2, .fieldref 10 11), (0, .class_ 12), (0, .nameAndType 13 14), (0, u "java/lang/String"), (0, u "value"), (0, u "[B"), (0, .fieldref 10 16), (0, .nameAndType 17 18), (0, u "coder"), (0, u "B"), (2, u "hash"), (0, u "I"), (2, u "hashIsZero"), (0, u "Z"), (11, .fieldref 10 39), (0, .nameAndType 40 26), (0, u "COMPACT_STRINGS"), (12, u "toBytes"), (53, .class_ 109), (1, u "java/lang/StringLatin1"), (99, .methodref 10 210), (0, .nameAndType 5 211), (0, u "([BB)V"), (157, u "(C)Z"), (173, u "equals"), (29, u "(Ljava/lang/Object;)Z"), (1, .class_ 576), (0, u "java/lang/CharSequence"), (22, u "CASE_INSENSITIVE_ORDER"), (0, u "Ljava/util/Comparator;"), (181, u "valueOf"), (0, u "(C)Ljava/lang/String;"), (231, .methodref 107 1016), (0, .nameAndType 1017 369), (0, u "canEncode"), (0, .methodref 107 1019), (0, .nameAndType 53 1020), (0, u "(C)[B"), (80, u "serialPersistentFields"), (0, u "[Ljava/io/ObjectStreamField;"), (0, .class_ 1104), (0, u "java/lang/String$CaseInsensitiveComparator"), (1, .class_ 1107), (0, u "java/io/Serializable"), (0, .class_ 1109), (0, u "java/lang/Comparable"), (0, .class_ 1111), (0, u "java/lang/constant/Constable"), (0, .class_ 1113), (0, u "java/lang/constant/ConstantDesc"), (2, u "serialVersionUID"), (0, u "J"), (3, u "REPL"), (0, u "C"), (2, u "LATIN1"), (1, u "UTF16")] 323

def k28m0 : Method := { name := "<init>", desc := "()V", sig := { parameters := [], returnType := none }, accessFlags := 1, code := none }
def k28c1 : Code := { maxStack := 2, maxLocals := 3, code := jdk_42_method_66_code, exceptionTable := #[], attributes := #[] }
def k28m1 : Method := { name := "equals", desc := "(Ljava/lang/Object;)Z", sig := { parameters := [(.object "java/lang/Object")], returnType := some .boolean }, accessFlags := 1, code := some k28c1 }
def k28c2 : Code := { maxStack := 4, maxLocals := 1, code := jdk_42_method_139_code, exceptionTable := #[], attributes := #[] }
def k28m2 : Method := { name := "valueOf", desc := "(C)Ljava/lang/String;", sig := { parameters := [.char], returnType := some (.object "java/lang/String") }, accessFlags := 9, code := some k28c2 }
def k28c3 : Code := { maxStack := 2, maxLocals := 3, code := jdk_42_method_151_code, exceptionTable := #[], attributes := #[] }
def k28m3 : Method := { name := "<init>", desc := "([BB)V", sig := { parameters := [(.array .byte), .byte], returnType := none }, accessFlags := 0, code := some k28c3 }
/-- java/lang/String -/
def k28 : Class := { plain "java/lang/String" (some 0) with
  accessFlags := 49
  interfaces := #[11, 23, 26, 22, 27]
  cf := some (fileOf pool28 10 #[.nestMembers #[1103]] #[{ accessFlags := 1, nameIndex := 5, descriptorIndex := 6, attributes := #[] }, { accessFlags := 1, nameIndex := 543, descriptorIndex := 573, attributes := #[] }, { accessFlags := 9, nameIndex := 782, descriptorIndex := 783, attributes := #[] }, { accessFlags := 0, nameIndex := 5, descriptorIndex := 211, attributes := #[] }] 49 2 #[1106, 1108, 575, 1110, 1112] #[{ accessFlags := 18, nameIndex := 13, descriptorIndex := 14, attributes := #[] }, { accessFlags := 18, nameIndex := 17, descriptorIndex := 18, attributes := #[] }, { accessFlags := 2, nameIndex := 21, descriptorIndex := 22, attributes := #[] }, { accessFlags := 2, nameIndex := 25, descriptorIndex := 26, attributes := #[] }, { accessFlags := 26, nameIndex := 1116, descriptorIndex := 1117, attributes := #[] }, { accessFlags := 24, nameIndex := 40, descriptorIndex := 26, attributes := #[] }, { accessFlags := 26, nameIndex := 1101, descriptorIndex := 1102, attributes := #[] }, { accessFlags := 26, nameIndex := 1121, descriptorIndex := 1122, attributes := #[] }, { accessFlags := 25, nameIndex := 599, descriptorIndex := 600, attributes := #[] }, { accessFlags := 24, nameIndex := 1125, descriptorIndex := 18, attributes := #[] }, { accessFlags := 24, nameIndex := 1127, descriptorIndex := 18, attributes := #[] }])
  fields := #[{ name := "value", type := (.array .byte), accessFlags := 18, slot := 0, constantValue := 0 }, { name := "coder", type := .byte, accessFlags := 18, slot := 1, constantValue := 0 }, { name := "hash", type := .int, accessFlags := 2, slot := 2, constantValue := 0 }, { name := "hashIsZero", type := .boolean, accessFlags := 2, slot := 3, constantValue := 0 }, { name := "serialVersionUID", type := .long, accessFlags := 26, slot := 0, constantValue := 0 }, { name := "COMPACT_STRINGS", type := .boolean, accessFlags := 24, slot := 1, constantValue := 0 }, { name := "serialPersistentFields", type := (.array (.object "java/io/ObjectStreamField")), accessFlags := 26, slot := 2, constantValue := 0 }, { name := "REPL", type := .char, accessFlags := 26, slot := 3, constantValue := 0 }, { name := "CASE_INSENSITIVE_ORDER", type := (.object "java/util/Comparator"), accessFlags := 25, slot := 4, constantValue := 0 }, { name := "LATIN1", type := .byte, accessFlags := 24, slot := 5, constantValue := 0 }, { name := "UTF16", type := .byte, accessFlags := 24, slot := 6, constantValue := 0 }]
  methods := #[k28m0, k28m1, k28m2, k28m3]
  instanceTypes := #[(.array .byte), .byte, .int, .boolean]
  staticTypes := #[.long, .boolean, (.array (.object "java/io/ObjectStreamField")), .char, (.object "java/util/Comparator"), .byte, .byte]
  resolved := Array.replicate 1451 none
  statics := some 2 }

def pool29 : Array CpInfo := pool [(1, .methodref 2 3), (0, .class_ 4), (0, .nameAndType 5 6), (0, u "java/lang/Object"), (0, u "<init>"), (0, u "()V"), (0, .class_ 8), (0, u "java/util/ArrayList"), (0, .methodref 7 3), (0, .fieldref 11 12), (0, .class_ 13), (0, .nameAndType 14 15), (0, u "com/example/fixlore/fixlore/lang/GraphBuilder$Draft"), (0, u "steps"), (0, u "Ljava/util/List;"), (0, .fieldref 11 17), (0, .nameAndType 18 19), (0, u "kind"), (0, u "Lcom/example/fixlore/fixlore/lang/SemanticGraph$Kind;"), (0, .fieldref 11 21), (0, .nameAndType 22 23), (0, u "label"), (0, u "Ljava/lang/String;"), (0, .fieldref 11 25), (0, .nameAndType 26 27), (0, u "line"), (0, u "I"), (0, .fieldref 11 29), (0, .nameAndType 30 27), (0, u "column"), (0, .fieldref 11 32), (0, .nameAndType 33 27), (0, u "tryPart"), (34, u "(Lcom/example/fixlore/fixlore/lang/SemanticGraph$Kind;Ljava/lang/String;III)V"), (8, .class_ 78), (0, u "com/example/fixlore/fixlore/lang/GraphBuilder")] 8

def k29c0 : Code := { maxStack := 3, maxLocals := 6, code := prog_27_method_1_code, exceptionTable := #[], attributes := #[] }
def k29m0 : Method := { name := "<init>", desc := "(Lcom/example/fixlore/fixlore/lang/SemanticGraph$Kind;Ljava/lang/String;III)V", sig := { parameters := [(.object "com/example/fixlore/fixlore/lang/SemanticGraph$Kind"), (.object "java/lang/String"), .int, .int, .int], returnType := none }, accessFlags := 2, code := some k29c0 }
/-- com/example/fixlore/fixlore/lang/GraphBuilder$Draft -/
def k29 : Class := { plain "com/example/fixlore/fixlore/lang/GraphBuilder$Draft" (some 0) with
  accessFlags := 48
  interfaces := #[]
  cf := some (fileOf pool29 11 #[.nestHost 77] #[{ accessFlags := 2, nameIndex := 5, descriptorIndex := 68, attributes := #[] }] 48 2 #[] #[{ accessFlags := 2, nameIndex := 18, descriptorIndex := 19, attributes := #[] }, { accessFlags := 18, nameIndex := 22, descriptorIndex := 23, attributes := #[] }, { accessFlags := 18, nameIndex := 26, descriptorIndex := 27, attributes := #[] }, { accessFlags := 18, nameIndex := 30, descriptorIndex := 27, attributes := #[] }, { accessFlags := 18, nameIndex := 33, descriptorIndex := 27, attributes := #[] }, { accessFlags := 18, nameIndex := 14, descriptorIndex := 15, attributes := #[] }])
  fields := #[{ name := "kind", type := (.object "com/example/fixlore/fixlore/lang/SemanticGraph$Kind"), accessFlags := 2, slot := 0, constantValue := 0 }, { name := "label", type := (.object "java/lang/String"), accessFlags := 18, slot := 1, constantValue := 0 }, { name := "line", type := .int, accessFlags := 18, slot := 2, constantValue := 0 }, { name := "column", type := .int, accessFlags := 18, slot := 3, constantValue := 0 }, { name := "tryPart", type := .int, accessFlags := 18, slot := 4, constantValue := 0 }, { name := "steps", type := (.object "java/util/List"), accessFlags := 18, slot := 5, constantValue := 0 }]
  methods := #[k29m0]
  instanceTypes := #[(.object "com/example/fixlore/fixlore/lang/SemanticGraph$Kind"), (.object "java/lang/String"), .int, .int, .int, (.object "java/util/List")]
  staticTypes := #[]
  resolved := Array.replicate 87 none
  statics := none }

def pool30 : Array CpInfo := pool [(1, .class_ 2), (0, u "java/lang/Math"), (1, .class_ 6), (1, u "java/lang/Object"), (0, u "<init>"), (0, u "()V"), (89, .class_ 100), (1, u "java/lang/Math$RandomNumberGeneratorHolder"), (71, u "negativeZeroFloatBits"), (0, u "J"), (2, u "negativeZeroDoubleBits"), (21, u "max"), (46, u "$assertionsDisabled"), (0, u "Z"), (88, u "(II)I"), (2, u "twoToTheDoubleScaleDown"), (0, u "D"), (4, u "twoToTheDoubleScaleUp"), (9, u "E"), (3, u "PI"), (2, u "TAU"), (2, u "DEGREES_TO_RADIANS"), (0, u "RADIANS_TO_DEGREES")] 94

def k30m0 : Method := { name := "<init>", desc := "()V", sig := { parameters := [], returnType := none }, accessFlags := 2, code := none }
def k30c1 : Code := { maxStack := 2, maxLocals := 2, code := jdk_29_method_65_code, exceptionTable := #[], attributes := #[] }
def k30m1 : Method := { name := "max", desc := "(II)I", sig := { parameters := [.int, .int], returnType := some .int }, accessFlags := 9, code := some k30c1 }
/-- java/lang/Math -/
def k30 : Class := { plain "java/lang/Math" (some 0) with
  accessFlags := 49
  interfaces := #[]
  cf := some (fileOf pool30 1 #[.nestMembers #[98]] #[{ accessFlags := 2, nameIndex := 7, descriptorIndex := 8, attributes := #[] }, { accessFlags := 9, nameIndex := 198, descriptorIndex := 335, attributes := #[] }] 49 4 #[] #[{ accessFlags := 25, nameIndex := 354, descriptorIndex := 339, attributes := #[] }, { accessFlags := 25, nameIndex := 358, descriptorIndex := 339, attributes := #[] }, { accessFlags := 25, nameIndex := 361, descriptorIndex := 339, attributes := #[] }, { accessFlags := 26, nameIndex := 364, descriptorIndex := 339, attributes := #[] }, { accessFlags := 26, nameIndex := 365, descriptorIndex := 339, attributes := #[] }, { accessFlags := 26, nameIndex := 172, descriptorIndex := 173, attributes := #[] }, { accessFlags := 26, nameIndex := 176, descriptorIndex := 173, attributes := #[] }, { accessFlags := 8, nameIndex := 344, descriptorIndex := 339, attributes := #[] }, { accessFlags := 8, nameIndex := 338, descriptorIndex := 339, attributes := #[] }, { accessFlags := 4120, nameIndex := 245, descriptorIndex := 246, attributes := #[] }])
  fields := #[{ name := "E", type := .double, accessFlags := 25, slot := 0, constantValue := 0 }, { name := "PI", type := .double, accessFlags := 25, slot := 1, constantValue := 0 }, { name := "TAU", type := .double, accessFlags := 25, slot := 2, constantValue := 0 }, { name := "DEGREES_TO_RADIANS", type := .double, accessFlags := 26, slot := 3, constantValue := 0 }, { name := "RADIANS_TO_DEGREES", type := .double, accessFlags := 26, slot := 4, constantValue := 0 }, { name := "negativeZeroFloatBits", type := .long, accessFlags := 26, slot := 5, constantValue := 0 }, { name := "negativeZeroDoubleBits", type := .long, accessFlags := 26, slot := 6, constantValue := 0 }, { name := "twoToTheDoubleScaleUp", type := .double, accessFlags := 8, slot := 7, constantValue := 0 }, { name := "twoToTheDoubleScaleDown", type := .double, accessFlags := 8, slot := 8, constantValue := 0 }, { name := "$assertionsDisabled", type := .boolean, accessFlags := 4120, slot := 9, constantValue := 0 }]
  methods := #[k30m0, k30m1]
  instanceTypes := #[]
  staticTypes := #[.double, .double, .double, .double, .double, .long, .long, .double, .double, .boolean]
  resolved := Array.replicate 460 none
  statics := none }

def pool31 : Array CpInfo := pool [(1, .methodref 2 3), (0, .class_ 4), (0, .nameAndType 5 6), (0, u "java/lang/Object"), (0, u "<init>"), (0, u "()V"), (0, .class_ 8), (0, u "java/lang/Record")] 13

def k31c0 : Code := { maxStack := 1, maxLocals := 1, code := jdk_30_method_1_code, exceptionTable := #[], attributes := #[] }
def k31m0 : Method := { name := "<init>", desc := "()V", sig := { parameters := [], returnType := none }, accessFlags := 4, code := some k31c0 }
/-- java/lang/Record -/
def k31 : Class := { plain "java/lang/Record" (some 0) with
  accessFlags := 1057
  interfaces := #[]
  cf := some (fileOf pool31 7 #[] #[{ accessFlags := 4, nameIndex := 5, descriptorIndex := 6, attributes := #[] }] 1057 2 #[] #[])
  fields := #[]
  methods := #[k31m0]
  instanceTypes := #[]
  staticTypes := #[]
  resolved := Array.replicate 22 none
  statics := none }

def pool32 : Array CpInfo := pool [(1, .methodref 2 3), (0, .class_ 4), (0, .nameAndType 5 6), (0, u "java/lang/Record"), (0, u "<init>"), (0, u "()V"), (0, .fieldref 8 9), (0, .class_ 10), (0, .nameAndType 11 12), (0, u "com/example/fixlore/fixlore/lang/GraphBuilder$End"), (0, u "from"), (0, u "I"), (0, .fieldref 8 14), (0, .nameAndType 15 16), (0, u "branch"), (0, u "Ljava/lang/String;"), (12, u "(ILjava/lang/String;)V"), (3, u "()Ljava/lang/String;"), (0, u "()I"), (4, .class_ 40), (0, u "com/example/fixlore/fixlore/lang/GraphBuilder")] 20

def k32c0 : Code := { maxStack := 2, maxLocals := 3, code := prog_28_method_1_code, exceptionTable := #[], attributes := #[] }
def k32m0 : Method := { name := "<init>", desc := "(ILjava/lang/String;)V", sig := { parameters := [.int, (.object "java/lang/String")], returnType := none }, accessFlags := 0, code := some k32c0 }
def k32c1 : Code := { maxStack := 1, maxLocals := 1, code := prog_28_method_5_code, exceptionTable := #[], attributes := #[] }
def k32m1 : Method := { name := "from", desc := "()I", sig := { parameters := [], returnType := some .int }, accessFlags := 1, code := some k32c1 }
def k32c2 : Code := { maxStack := 1, maxLocals := 1, code := prog_28_method_6_code, exceptionTable := #[], attributes := #[] }
def k32m2 : Method := { name := "branch", desc := "()Ljava/lang/String;", sig := { parameters := [], returnType := some (.object "java/lang/String") }, accessFlags := 1, code := some k32c2 }
/-- com/example/fixlore/fixlore/lang/GraphBuilder$End -/
def k32 : Class := { plain "com/example/fixlore/fixlore/lang/GraphBuilder$End" (some 31) with
  accessFlags := 48
  interfaces := #[]
  cf := some (fileOf pool32 8 #[.nestHost 39] #[{ accessFlags := 0, nameIndex := 5, descriptorIndex := 29, attributes := #[] }, { accessFlags := 1, nameIndex := 11, descriptorIndex := 34, attributes := #[] }, { accessFlags := 1, nameIndex := 15, descriptorIndex := 33, attributes := #[] }] 48 2 #[] #[{ accessFlags := 18, nameIndex := 11, descriptorIndex := 12, attributes := #[] }, { accessFlags := 18, nameIndex := 15, descriptorIndex := 16, attributes := #[] }])
  fields := #[{ name := "from", type := .int, accessFlags := 18, slot := 0, constantValue := 0 }, { name := "branch", type := (.object "java/lang/String"), accessFlags := 18, slot := 1, constantValue := 0 }]
  methods := #[k32m0, k32m1, k32m2]
  instanceTypes := #[.int, (.object "java/lang/String")]
  staticTypes := #[]
  resolved := Array.replicate 61 none
  statics := none }

def pool33 : Array CpInfo := pool [(2, .class_ 4), (1, u "java/lang/Object"), (0, u "<init>"), (0, u "()V"), (35, .class_ 44), (1, u "java/util/Objects"), (60, .methodref 106 107), (0, .class_ 108), (0, .nameAndType 109 110), (0, u "jdk/internal/util/Preconditions"), (0, u "checkIndex"), (0, u "(IILjava/util/function/BiFunction;)I"), (60, u "(II)I")] 12

def k33m0 : Method := { name := "<init>", desc := "()V", sig := { parameters := [], returnType := none }, accessFlags := 2, code := none }
def k33c1 : Code := { maxStack := 3, maxLocals := 2, code := jdk_31_method_17_code, exceptionTable := #[], attributes := #[] }
def k33m1 : Method := { name := "checkIndex", desc := "(II)I", sig := { parameters := [.int, .int], returnType := some .int }, accessFlags := 9, code := some k33c1 }
/-- java/util/Objects -/
def k33 : Class := { plain "java/util/Objects" (some 0) with
  accessFlags := 49
  interfaces := #[]
  cf := some (fileOf pool33 42 #[] #[{ accessFlags := 2, nameIndex := 5, descriptorIndex := 6, attributes := #[] }, { accessFlags := 9, nameIndex := 109, descriptorIndex := 171, attributes := #[] }] 49 2 #[] #[])
  fields := #[]
  methods := #[k33m0, k33m1]
  instanceTypes := #[]
  staticTypes := #[]
  resolved := Array.replicate 184 none
  statics := none }

def pool34 : Array CpInfo := pool [(2, .class_ 4), (1, u "java/lang/Object"), (0, u "<init>"), (0, u "()V"), (17, .class_ 26), (1, u "jdk/internal/util/Preconditions"), (6, u "checkIndex"), (21, .class_ 56), (0, u "jdk/internal/util/Preconditions$4"), (57, .class_ 115), (0, u "jdk/internal/util/Preconditions$1"), (7, u "SIOOBE_FORMATTER"), (0, u "Ljava/util/function/BiFunction;"), (0, .class_ 126), (0, u "jdk/internal/util/Preconditions$2"), (3, u "AIOOBE_FORMATTER"), (0, .class_ 132), (0, u "jdk/internal/util/Preconditions$3"), (3, u "IOOBE_FORMATTER"), (41, u "(IILjava/util/function/BiFunction;)I")] 15

def k34m0 : Method := { name := "<init>", desc := "()V", sig := { parameters := [], returnType := none }, accessFlags := 1, code := none }
def k34c1 : Code := { maxStack := 3, maxLocals := 3, code := jdk_41_method_11_code, exceptionTable := #[], attributes := #[] }
def k34m1 : Method := { name := "checkIndex", desc := "(IILjava/util/function/BiFunction;)I", sig := { parameters := [.int, .int, (.object "java/util/function/BiFunction")], returnType := some .int }, accessFlags := 9, code := some k34c1 }
/-- jdk/internal/util/Preconditions -/
def k34 : Class := { plain "jdk/internal/util/Preconditions" (some 0) with
  accessFlags := 33
  interfaces := #[]
  cf := some (fileOf pool34 24 #[.nestMembers #[55, 131, 125, 114]] #[{ accessFlags := 1, nameIndex := 5, descriptorIndex := 6, attributes := #[] }, { accessFlags := 9, nameIndex := 33, descriptorIndex := 178, attributes := #[] }] 33 2 #[] #[{ accessFlags := 25, nameIndex := 123, descriptorIndex := 124, attributes := #[] }, { accessFlags := 25, nameIndex := 130, descriptorIndex := 124, attributes := #[] }, { accessFlags := 25, nameIndex := 136, descriptorIndex := 124, attributes := #[] }])
  fields := #[{ name := "SIOOBE_FORMATTER", type := (.object "java/util/function/BiFunction"), accessFlags := 25, slot := 0, constantValue := 0 }, { name := "AIOOBE_FORMATTER", type := (.object "java/util/function/BiFunction"), accessFlags := 25, slot := 1, constantValue := 0 }, { name := "IOOBE_FORMATTER", type := (.object "java/util/function/BiFunction"), accessFlags := 25, slot := 2, constantValue := 0 }]
  methods := #[k34m0, k34m1]
  instanceTypes := #[]
  staticTypes := #[(.object "java/util/function/BiFunction"), (.object "java/util/function/BiFunction"), (.object "java/util/function/BiFunction")]
  resolved := Array.replicate 194 none
  statics := some 3 }

def pool35 : Array CpInfo := pool [(4, .class_ 6), (1, u "java/lang/Object"), (0, u "<init>"), (0, u "()V"), (5, .class_ 16), (1, u "java/lang/StringLatin1"), (73, u "canEncode"), (14, u "(C)Z"), (15, u "$assertionsDisabled"), (0, u "Z"), (98, .class_ 223), (1, u "java/lang/StringLatin1$LinesSpliterator"), (156, u "toBytes"), (1, u "(C)[B"), (7, .class_ 391), (0, u "java/lang/StringLatin1$CharsSpliterator")] 3

def k35m0 : Method := { name := "<init>", desc := "()V", sig := { parameters := [], returnType := none }, accessFlags := 0, code := none }
def k35c1 : Code := { maxStack := 2, maxLocals := 1, code := jdk_43_method_3_code, exceptionTable := #[], attributes := #[] }
def k35m1 : Method := { name := "canEncode", desc := "(C)Z", sig := { parameters := [.char], returnType := some .boolean }, accessFlags := 9, code := some k35c1 }
def k35c2 : Code := { maxStack := 4, maxLocals := 1, code := jdk_43_method_46_code, exceptionTable := #[], attributes := #[] }
def k35m2 : Method := { name := "toBytes", desc := "(C)[B", sig := { parameters := [.char], returnType := some (.array .byte) }, accessFlags := 9, code := some k35c2 }
/-- java/lang/StringLatin1 -/
def k35 : Class := { plain "java/lang/StringLatin1" (some 0) with
  accessFlags := 48
  interfaces := #[]
  cf := some (fileOf pool35 14 #[.nestMembers #[390, 221]] #[{ accessFlags := 0, nameIndex := 7, descriptorIndex := 8, attributes := #[] }, { accessFlags := 9, nameIndex := 90, descriptorIndex := 105, attributes := #[] }, { accessFlags := 9, nameIndex := 380, descriptorIndex := 382, attributes := #[] }] 48 4 #[] #[{ accessFlags := 4120, nameIndex := 121, descriptorIndex := 122, attributes := #[] }])
  fields := #[{ name := "$assertionsDisabled", type := .boolean, accessFlags := 4120, slot := 0, constantValue := 0 }]
  methods := #[k35m0, k35m1, k35m2]
  instanceTypes := #[]
  staticTypes := #[.boolean]
  resolved := Array.replicate 395 none
  statics := none }

def pool36 : Array CpInfo := pool [(9, u "<init>"), (6, .class_ 18), (1, u "java/lang/Object"), (0, u "()V"), (1, .class_ 23), (1, u "jdk/internal/util/ArraysSupport"), (0, u "LOG2_ARRAY_LONG_INDEX_SCALE"), (0, u "I"), (2, u "U"), (0, u "Ljdk/internal/misc/Unsafe;"), (8, u "BIG_ENDIAN"), (0, u "Z"), (8, u "LOG2_BYTE_BIT_SIZE"), (4, u "LOG2_ARRAY_INT_INDEX_SCALE"), (54, u "JLA"), (0, u "Ljdk/internal/access/JavaLangAccess;"), (11, u "LOG2_ARRAY_BOOLEAN_INDEX_SCALE"), (9, u "LOG2_ARRAY_BYTE_INDEX_SCALE"), (5, u "LOG2_ARRAY_CHAR_INDEX_SCALE"), (5, u "LOG2_ARRAY_SHORT_INDEX_SCALE"), (18, u "LOG2_ARRAY_FLOAT_INDEX_SCALE"), (24, u "LOG2_ARRAY_DOUBLE_INDEX_SCALE"), (89, u "T_BOOLEAN"), (2, u "T_CHAR"), (1, u "T_FLOAT"), (1, u "T_DOUBLE"), (1, u "T_BYTE"), (1, u "T_SHORT"), (1, u "T_INT"), (1, u "T_LONG"), (1, u "SOFT_MAX_ARRAY_LENGTH")] 83

def k36m0 : Method := { name := "<init>", desc := "()V", sig := { parameters := [], returnType := none }, accessFlags := 2, code := none }
/-- jdk/internal/util/ArraysSupport -/
def k36 : Class := { plain "jdk/internal/util/ArraysSupport" (some 0) with
  accessFlags := 33
  interfaces := #[]
  cf := some (fileOf pool36 21 #[] #[{ accessFlags := 2, nameIndex := 9, descriptorIndex := 19, attributes := #[] }] 33 16 #[] #[{ accessFlags := 24, nameIndex := 28, descriptorIndex := 29, attributes := #[] }, { accessFlags := 26, nameIndex := 38, descriptorIndex := 39, attributes := #[] }, { accessFlags := 25, nameIndex := 121, descriptorIndex := 25, attributes := #[] }, { accessFlags := 25, nameIndex := 131, descriptorIndex := 25, attributes := #[] }, { accessFlags := 25, nameIndex := 137, descriptorIndex := 25, attributes := #[] }, { accessFlags := 25, nameIndex := 143, descriptorIndex := 25, attributes := #[] }, { accessFlags := 25, nameIndex := 53, descriptorIndex := 25, attributes := #[] }, { accessFlags := 25, nameIndex := 24, descriptorIndex := 25, attributes := #[] }, { accessFlags := 25, nameIndex := 162, descriptorIndex := 25, attributes := #[] }, { accessFlags := 25, nameIndex := 187, descriptorIndex := 25, attributes := #[] }, { accessFlags := 26, nameIndex := 48, descriptorIndex := 25, attributes := #[] }, { accessFlags := 25, nameIndex := 277, descriptorIndex := 25, attributes := #[] }, { accessFlags := 25, nameIndex := 280, descriptorIndex := 25, attributes := #[] }, { accessFlags := 25, nameIndex := 282, descriptorIndex := 25, attributes := #[] }, { accessFlags := 25, nameIndex := 284, descriptorIndex := 25, attributes := #[] }, { accessFlags := 25, nameIndex := 286, descriptorIndex := 25, attributes := #[] }, { accessFlags := 25, nameIndex := 288, descriptorIndex := 25, attributes := #[] }, { accessFlags := 25, nameIndex := 290, descriptorIndex := 25, attributes := #[] }, { accessFlags := 25, nameIndex := 292, descriptorIndex := 25, attributes := #[] }, { accessFlags := 26, nameIndex := 108, descriptorIndex := 109, attributes := #[] }, { accessFlags := 25, nameIndex := 294, descriptorIndex := 25, attributes := #[] }])
  fields := #[{ name := "U", type := (.object "jdk/internal/misc/Unsafe"), accessFlags := 24, slot := 0, constantValue := 0 }, { name := "BIG_ENDIAN", type := .boolean, accessFlags := 26, slot := 1, constantValue := 0 }, { name := "LOG2_ARRAY_BOOLEAN_INDEX_SCALE", type := .int, accessFlags := 25, slot := 2, constantValue := 0 }, { name := "LOG2_ARRAY_BYTE_INDEX_SCALE", type := .int, accessFlags := 25, slot := 3, constantValue := 0 }, { name := "LOG2_ARRAY_CHAR_INDEX_SCALE", type := .int, accessFlags := 25, slot := 4, constantValue := 0 }, { name := "LOG2_ARRAY_SHORT_INDEX_SCALE", type := .int, accessFlags := 25, slot := 5, constantValue := 0 }, { name := "LOG2_ARRAY_INT_INDEX_SCALE", type := .int, accessFlags := 25, slot := 6, constantValue := 0 }, { name := "LOG2_ARRAY_LONG_INDEX_SCALE", type := .int, accessFlags := 25, slot := 7, constantValue := 0 }, { name := "LOG2_ARRAY_FLOAT_INDEX_SCALE", type := .int, accessFlags := 25, slot := 8, constantValue := 0 }, { name := "LOG2_ARRAY_DOUBLE_INDEX_SCALE", type := .int, accessFlags := 25, slot := 9, constantValue := 0 }, { name := "LOG2_BYTE_BIT_SIZE", type := .int, accessFlags := 26, slot := 10, constantValue := 0 }, { name := "T_BOOLEAN", type := .int, accessFlags := 25, slot := 11, constantValue := 0 }, { name := "T_CHAR", type := .int, accessFlags := 25, slot := 12, constantValue := 0 }, { name := "T_FLOAT", type := .int, accessFlags := 25, slot := 13, constantValue := 0 }, { name := "T_DOUBLE", type := .int, accessFlags := 25, slot := 14, constantValue := 0 }, { name := "T_BYTE", type := .int, accessFlags := 25, slot := 15, constantValue := 0 }, { name := "T_SHORT", type := .int, accessFlags := 25, slot := 16, constantValue := 0 }, { name := "T_INT", type := .int, accessFlags := 25, slot := 17, constantValue := 0 }, { name := "T_LONG", type := .int, accessFlags := 25, slot := 18, constantValue := 0 }, { name := "JLA", type := (.object "jdk/internal/access/JavaLangAccess"), accessFlags := 26, slot := 19, constantValue := 0 }, { name := "SOFT_MAX_ARRAY_LENGTH", type := .int, accessFlags := 25, slot := 20, constantValue := 0 }]
  methods := #[k36m0]
  instanceTypes := #[]
  staticTypes := #[(.object "jdk/internal/misc/Unsafe"), .boolean, .int, .int, .int, .int, .int, .int, .int, .int, .int, .int, .int, .int, .int, .int, .int, .int, .int, (.object "jdk/internal/access/JavaLangAccess"), .int]
  resolved := Array.replicate 378 none
  statics := none }

/-- the primitive byte -/
def k37 : Class := { plain "byte" none with kind := .primitive 'B', accessFlags := 0x411 }
/-- [B -/
def k38 : Class := { plain "[B" (some 0) with kind := .array 37 .byte, interfaces := #[10, 11], accessFlags := 1041 }

/-- the primitive int -/
def k39 : Class := { plain "int" none with kind := .primitive 'I', accessFlags := 0x411 }
/-- [I -/
def k40 : Class := { plain "[I" (some 0) with kind := .array 39 .int, interfaces := #[10, 11], accessFlags := 1041 }

/-- [Ljava/lang/Object; -/
def k41 : Class := { plain "[Ljava/lang/Object;" (some 0) with kind := .array 0 (.object "java/lang/Object"), interfaces := #[10, 11], accessFlags := 1041 }

def heap : Heap := #[{ cls := 12, slots := #[.long 0, .int 0, .ref 6, .ref 7], vm := .statics 12 },
  { cls := 25, slots := #[.ref 4, .ref 5, .null, .null, .null, .null, .null, .null, .null, .null, .null, .null, .null, .null, .null, .null, .null, .null, .null, .null, .null, .null, .null, .null], vm := .statics 25 },
  { cls := 28, slots := #[.long 0, .int 1, .null, .int 0, .null, .int 0, .int 0], vm := .statics 28 },
  { cls := 34, slots := #[.null, .null, .null], vm := .statics 34 },
  { cls := 25, slots := #[.null, .int 0, .int 0, .null], vm := .none },
  { cls := 25, slots := #[.null, .int 1, .int 0, .null], vm := .none },
  { cls := 41, slots := #[], vm := .none },
  { cls := 41, slots := #[], vm := .none }]
def classes : Array Class := #[k0, k1, k2, k3, k4, k5, k6, k7, k8, k9, k10, k11, k12, k13, k14, k15, k16, k17, k18, k19, k20, k21, k22, k23, k24, k25, k26, k27, k28, k29, k30, k31, k32, k33, k34, k35, k36, k37, k38, k39, k40, k41]
def interned : List (Array UInt16 × Addr) := []
def slotsUsed : Nat := 46
def theMethod : MethodId := ⟨1, 2⟩
def args0 : Array Value := #[.int 1, .int 2, .int 3, .int 4, .int 5, .int 15]
def aboutOver (below : List Frame) : State where
  vm := { classes := classes, interned := interned.toArray }
  heap := heap
  slotsUsed := slotsUsed
  threads := #[{ frames := .invoking theMethod args0 :: below }]
def below0 : List Frame := [.native { method := ⟨0, 0⟩, args := #[] }]
def about1 : State := aboutOver below0
def p0 : Program := .bare "" "" ""
def e0 : Env := launch0.env 0 0 0
theorem w_frames : about1.frames = Frame.invoking theMethod args0 :: below0 := rfl
set_option maxRecDepth 65536 in
theorem w_args : argsFit about1.vm theMethod args0 = true := by decide +kernel
set_option maxRecDepth 65536 in
theorem w_heap : heapFits about1 = true := by decide +kernel
set_option maxRecDepth 65536 in
theorem w_runnable : about1.curStatus? = some .runnable := by decide +kernel
set_option maxRecDepth 65536 in
theorem w_alone : about1.alone = true := by decide +kernel
set_option maxRecDepth 65536 in
theorem w_named : about1.methodNamed? x = some theMethod := by decide +kernel
set_option maxRecDepth 65536 in
theorem w_hears : about1.hears theMethod below0 = true := by decide +kernel
set_option maxRecDepth 65536 in
theorem w_ripe : about1.ripe theMethod args0 below0 = true := by decide +kernel
theorem w_running : about1.status = .running := rfl
set_option maxRecDepth 65536 in
theorem w_room : about1.hasRoom e0.platform room_1 = true :=
  launch0.hasRoom_least _ room_1 (by decide +kernel) (by decide +kernel) (by decide +kernel) (by decide +kernel) (by decide +kernel) (by decide +kernel)
theorem allAtoms_all (ts : List Jvm.Cond) (a : Array Jvm.Value) (st : Jvm.State) : (allAtoms ts).before a st = ts.all (fun c => c.before a st) := by
  induction ts with
  | nil => rfl
  | cons c t ih =>
    show (Jvm.Cond.and c (allAtoms t)).before a st = _
    rw [Jvm.Cond.before_and, ih, List.all_cons]
def words1 : List Jvm.Cond := Jvm.Cond.code x code maxLocals ret :: tables_1
/-- a 'code' word, met by the world's own term for the bytes: nothing is compared byte by byte -/
theorem code_word {y : MethodName} {bytes : ByteArray} {mx : Nat} {rt : Option FieldType} {a : Array Value} {s : State} {m : MethodId} {meth : Method} {c : Code} (h1 : s.methodNamed? y = some m) (h2 : s.vm.method? m = some meth) (h3 : meth.code = some c) (h4 : c.code = bytes)
    (h5 : (c.maxLocals == mx && c.exceptionTable.isEmpty && decide (c.maxStack ≤ mostOperands) && decide (meth.sig.returnType = rt) && !meth.locks && decide (parseMethodDescriptor y.desc = some meth.sig)) = true) : (Jvm.Cond.code y bytes mx rt).before a s = true := by
  simp only [Bool.and_eq_true, beq_iff_eq, Bool.not_eq_true', decide_eq_true_eq] at h5
  obtain ⟨⟨⟨⟨⟨g1, g2⟩, g3⟩, g4⟩, g5⟩, g6⟩ := h5
  simp [Cond.before, Cond.holds, Cond.value, h1, h2, h3, h4, g1, g2, g3, g4, g5, g6]
def isCode : Jvm.Cond → Bool
  | .code _ _ _ _ => true
  | _ => false
theorem all_split {L : List Jvm.Cond} {P : Jvm.Cond → Bool} (h1 : L.all (fun c => isCode c || P c) = true) (h2 : ∀ c ∈ L.filter isCode, P c = true) : L.all P = true := by
  refine List.all_eq_true.mpr fun c hc => ?_
  have h := List.all_eq_true.mp h1 c hc
  rcases Bool.eq_false_or_eq_true (isCode c) with hi | hi
  · exact h2 c (List.mem_filter.mpr ⟨hc, hi⟩)
  · simpa [hi] using h
set_option maxRecDepth 65536 in
theorem w_c0 : (Jvm.Cond.code x code maxLocals ret).before args0 about1 = true := code_word (m := ⟨1, 2⟩) (meth := k1m2) (c := k1c2) (by decide +kernel) rfl rfl rfl (by decide +kernel)
set_option maxRecDepth 65536 in
theorem w_c1 : (Jvm.Cond.code ({ cls := "com/example/fixlore/fixlore/lang/GraphBuilder", name := "<init>", desc := "(III)V" } : Jvm.MethodName) prog_26_method_1_code (5 : Nat) (Option.none : Option Jvm.ClassFile.FieldType)).before args0 about1 = true := code_word (m := ⟨2, 0⟩) (meth := k2m0) (c := k2c0) (by decide +kernel) rfl rfl rfl (by decide +kernel)
set_option maxRecDepth 65536 in
theorem w_c2 : (Jvm.Cond.code ({ cls := "java/lang/Object", name := "<init>", desc := "()V" } : Jvm.MethodName) object_method_1_code (1 : Nat) (Option.none : Option Jvm.ClassFile.FieldType)).before args0 about1 = true := code_word (m := ⟨0, 0⟩) (meth := k0m0) (c := k0c0) (by decide +kernel) rfl rfl rfl (by decide +kernel)
set_option maxRecDepth 65536 in
theorem w_c3 : (Jvm.Cond.code ({ cls := "java/util/ArrayList", name := "<init>", desc := "()V" } : Jvm.MethodName) jdk_38_method_2_code (1 : Nat) (Option.none : Option Jvm.ClassFile.FieldType)).before args0 about1 = true := code_word (m := ⟨12, 0⟩) (meth := k12m0) (c := k12c0) (by decide +kernel) rfl rfl rfl (by decide +kernel)
set_option maxRecDepth 65536 in
theorem w_c4 : (Jvm.Cond.code ({ cls := "java/util/AbstractList", name := "<init>", desc := "()V" } : Jvm.MethodName) jdk_39_method_1_code (1 : Nat) (Option.none : Option Jvm.ClassFile.FieldType)).before args0 about1 = true := code_word (m := ⟨8, 0⟩) (meth := k8m0) (c := k8c0) (by decide +kernel) rfl rfl rfl (by decide +kernel)
set_option maxRecDepth 65536 in
theorem w_c5 : (Jvm.Cond.code ({ cls := "java/util/AbstractCollection", name := "<init>", desc := "()V" } : Jvm.MethodName) jdk_22_method_1_code (1 : Nat) (Option.none : Option Jvm.ClassFile.FieldType)).before args0 about1 = true := code_word (m := ⟨5, 0⟩) (meth := k5m0) (c := k5c0) (by decide +kernel) rfl rfl rfl (by decide +kernel)
set_option maxRecDepth 65536 in
theorem w_c6 : (Jvm.Cond.code ({ cls := "java/util/HashMap", name := "<init>", desc := "()V" } : Jvm.MethodName) jdk_69_method_7_code (1 : Nat) (Option.none : Option Jvm.ClassFile.FieldType)).before args0 about1 = true := code_word (m := ⟨15, 0⟩) (meth := k15m0) (c := k15c0) (by decide +kernel) rfl rfl rfl (by decide +kernel)
set_option maxRecDepth 65536 in
theorem w_c7 : (Jvm.Cond.code ({ cls := "java/util/AbstractMap", name := "<init>", desc := "()V" } : Jvm.MethodName) jdk_71_method_1_code (1 : Nat) (Option.none : Option Jvm.ClassFile.FieldType)).before args0 about1 = true := code_word (m := ⟨14, 0⟩) (meth := k14m0) (c := k14c0) (by decide +kernel) rfl rfl rfl (by decide +kernel)
set_option maxRecDepth 65536 in
theorem w_c8 : (Jvm.Cond.code ({ cls := "java/util/HashSet", name := "<init>", desc := "()V" } : Jvm.MethodName) jdk_93_method_1_code (1 : Nat) (Option.none : Option Jvm.ClassFile.FieldType)).before args0 about1 = true := code_word (m := ⟨18, 0⟩) (meth := k18m0) (c := k18c0) (by decide +kernel) rfl rfl rfl (by decide +kernel)
set_option maxRecDepth 65536 in
theorem w_c9 : (Jvm.Cond.code ({ cls := "java/util/AbstractSet", name := "<init>", desc := "()V" } : Jvm.MethodName) jdk_91_method_1_code (1 : Nat) (Option.none : Option Jvm.ClassFile.FieldType)).before args0 about1 = true := code_word (m := ⟨17, 0⟩) (meth := k17m0) (c := k17c0) (by decide +kernel) rfl rfl rfl (by decide +kernel)
set_option maxRecDepth 65536 in
theorem w_c10 : (Jvm.Cond.code ({ cls := "java/util/ArrayDeque", name := "<init>", desc := "()V" } : Jvm.MethodName) jdk_21_method_3_code (1 : Nat) (Option.none : Option Jvm.ClassFile.FieldType)).before args0 about1 = true := code_word (m := ⟨21, 0⟩) (meth := k21m0) (c := k21c0) (by decide +kernel) rfl rfl rfl (by decide +kernel)
set_option maxRecDepth 65536 in
theorem w_c11 : (Jvm.Cond.code ({ cls := "com/example/fixlore/fixlore/lang/GraphBuilder", name := "add", desc := "(Lcom/example/fixlore/fixlore/lang/SemanticGraph$Kind;Ljava/lang/String;II)I" } : Jvm.MethodName) prog_26_method_2_code (6 : Nat) (Option.some Jvm.ClassFile.FieldType.int)).before args0 about1 = true := code_word (m := ⟨2, 1⟩) (meth := k2m1) (c := k2c1) (by decide +kernel) rfl rfl rfl (by decide +kernel)
set_option maxRecDepth 65536 in
theorem w_c12 : (Jvm.Cond.code ({ cls := "java/util/ArrayDeque", name := "isEmpty", desc := "()Z" } : Jvm.MethodName) jdk_21_method_38_code (1 : Nat) (Option.some Jvm.ClassFile.FieldType.boolean)).before args0 about1 = true := code_word (m := ⟨21, 1⟩) (meth := k21m1) (c := k21c1) (by decide +kernel) rfl rfl rfl (by decide +kernel)
set_option maxRecDepth 65536 in
theorem w_c13 : (Jvm.Cond.code ({ cls := "com/example/fixlore/fixlore/lang/GraphBuilder$Draft", name := "<init>", desc := "(Lcom/example/fixlore/fixlore/lang/SemanticGraph$Kind;Ljava/lang/String;III)V" } : Jvm.MethodName) prog_27_method_1_code (6 : Nat) (Option.none : Option Jvm.ClassFile.FieldType)).before args0 about1 = true := code_word (m := ⟨29, 0⟩) (meth := k29m0) (c := k29c0) (by decide +kernel) rfl rfl rfl (by decide +kernel)
set_option maxRecDepth 65536 in
theorem w_c14 : (Jvm.Cond.code ({ cls := "java/util/ArrayList", name := "add", desc := "(Ljava/lang/Object;)Z" } : Jvm.MethodName) jdk_38_method_25_code (2 : Nat) (Option.some Jvm.ClassFile.FieldType.boolean)).before args0 about1 = true := code_word (m := ⟨12, 7⟩) (meth := k12m7) (c := k12c7) (by decide +kernel) rfl rfl rfl (by decide +kernel)
set_option maxRecDepth 65536 in
theorem w_c15 : (Jvm.Cond.code ({ cls := "java/util/ArrayList", name := "add", desc := "(Ljava/lang/Object;[Ljava/lang/Object;I)V" } : Jvm.MethodName) jdk_38_method_24_code (4 : Nat) (Option.none : Option Jvm.ClassFile.FieldType)).before args0 about1 = true := code_word (m := ⟨12, 6⟩) (meth := k12m6) (c := k12c6) (by decide +kernel) rfl rfl rfl (by decide +kernel)
set_option maxRecDepth 65536 in
theorem w_c16 : (Jvm.Cond.code ({ cls := "java/util/ArrayList", name := "grow", desc := "()[Ljava/lang/Object;" } : Jvm.MethodName) jdk_38_method_7_code (1 : Nat) (Option.some (Jvm.ClassFile.FieldType.array (Jvm.ClassFile.FieldType.object "java/lang/Object")))).before args0 about1 = true := code_word (m := ⟨12, 2⟩) (meth := k12m2) (c := k12c2) (by decide +kernel) rfl rfl rfl (by decide +kernel)
set_option maxRecDepth 65536 in
theorem w_c17 : (Jvm.Cond.code ({ cls := "java/util/ArrayList", name := "grow", desc := "(I)[Ljava/lang/Object;" } : Jvm.MethodName) jdk_38_method_6_code (4 : Nat) (Option.some (Jvm.ClassFile.FieldType.array (Jvm.ClassFile.FieldType.object "java/lang/Object")))).before args0 about1 = true := code_word (m := ⟨12, 1⟩) (meth := k12m1) (c := k12c1) (by decide +kernel) rfl rfl rfl (by decide +kernel)
set_option maxRecDepth 65536 in
theorem w_c18 : (Jvm.Cond.code ({ cls := "java/lang/Math", name := "max", desc := "(II)I" } : Jvm.MethodName) jdk_29_method_65_code (2 : Nat) (Option.some Jvm.ClassFile.FieldType.int)).before args0 about1 = true := code_word (m := ⟨30, 1⟩) (meth := k30m1) (c := k30c1) (by decide +kernel) rfl rfl rfl (by decide +kernel)
set_option maxRecDepth 65536 in
theorem w_c19 : (Jvm.Cond.code ({ cls := "java/util/ArrayList", name := "size", desc := "()I" } : Jvm.MethodName) jdk_38_method_8_code (1 : Nat) (Option.some Jvm.ClassFile.FieldType.int)).before args0 about1 = true := code_word (m := ⟨12, 3⟩) (meth := k12m3) (c := k12c3) (by decide +kernel) rfl rfl rfl (by decide +kernel)
set_option maxRecDepth 65536 in
theorem w_c20 : (Jvm.Cond.code ({ cls := "com/example/fixlore/fixlore/lang/GraphBuilder", name := "follow", desc := "(ILjava/lang/String;)V" } : Jvm.MethodName) prog_26_method_14_code (3 : Nat) (Option.none : Option Jvm.ClassFile.FieldType)).before args0 about1 = true := code_word (m := ⟨2, 2⟩) (meth := k2m2) (c := k2c2) (by decide +kernel) rfl rfl rfl (by decide +kernel)
set_option maxRecDepth 65536 in
theorem w_c21 : (Jvm.Cond.code ({ cls := "com/example/fixlore/fixlore/lang/GraphBuilder", name := "join", desc := "(ILjava/lang/String;)V" } : Jvm.MethodName) prog_26_method_17_code (3 : Nat) (Option.none : Option Jvm.ClassFile.FieldType)).before args0 about1 = true := code_word (m := ⟨2, 4⟩) (meth := k2m4) (c := k2c4) (by decide +kernel) rfl rfl rfl (by decide +kernel)
set_option maxRecDepth 65536 in
theorem w_c22 : (Jvm.Cond.code ({ cls := "com/example/fixlore/fixlore/lang/GraphBuilder$End", name := "<init>", desc := "(ILjava/lang/String;)V" } : Jvm.MethodName) prog_28_method_1_code (3 : Nat) (Option.none : Option Jvm.ClassFile.FieldType)).before args0 about1 = true := code_word (m := ⟨32, 0⟩) (meth := k32m0) (c := k32c0) (by decide +kernel) rfl rfl rfl (by decide +kernel)
set_option maxRecDepth 65536 in
theorem w_c23 : (Jvm.Cond.code ({ cls := "java/lang/Record", name := "<init>", desc := "()V" } : Jvm.MethodName) jdk_30_method_1_code (1 : Nat) (Option.none : Option Jvm.ClassFile.FieldType)).before args0 about1 = true := code_word (m := ⟨31, 0⟩) (meth := k31m0) (c := k31c0) (by decide +kernel) rfl rfl rfl (by decide +kernel)
set_option maxRecDepth 65536 in
theorem w_c24 : (Jvm.Cond.code ({ cls := "com/example/fixlore/fixlore/lang/GraphBuilder", name := "suspend", desc := "()Ljava/util/List;" } : Jvm.MethodName) prog_26_method_15_code (2 : Nat) (Option.some (Jvm.ClassFile.FieldType.object "java/util/List"))).before args0 about1 = true := code_word (m := ⟨2, 3⟩) (meth := k2m3) (c := k2c3) (by decide +kernel) rfl rfl rfl (by decide +kernel)
set_option maxRecDepth 65536 in
theorem w_c25 : (Jvm.Cond.code ({ cls := "java/util/ArrayList", name := "get", desc := "(I)Ljava/lang/Object;" } : Jvm.MethodName) jdk_38_method_20_code (2 : Nat) (Option.some (Jvm.ClassFile.FieldType.object "java/lang/Object"))).before args0 about1 = true := code_word (m := ⟨12, 5⟩) (meth := k12m5) (c := k12c5) (by decide +kernel) rfl rfl rfl (by decide +kernel)
set_option maxRecDepth 65536 in
theorem w_c26 : (Jvm.Cond.code ({ cls := "java/util/Objects", name := "checkIndex", desc := "(II)I" } : Jvm.MethodName) jdk_31_method_17_code (2 : Nat) (Option.some Jvm.ClassFile.FieldType.int)).before args0 about1 = true := code_word (m := ⟨33, 1⟩) (meth := k33m1) (c := k33c1) (by decide +kernel) rfl rfl rfl (by decide +kernel)
set_option maxRecDepth 65536 in
theorem w_c27 : (Jvm.Cond.code ({ cls := "jdk/internal/util/Preconditions", name := "checkIndex", desc := "(IILjava/util/function/BiFunction;)I" } : Jvm.MethodName) jdk_41_method_11_code (3 : Nat) (Option.some Jvm.ClassFile.FieldType.int)).before args0 about1 = true := code_word (m := ⟨34, 1⟩) (meth := k34m1) (c := k34c1) (by decide +kernel) rfl rfl rfl (by decide +kernel)
set_option maxRecDepth 65536 in
theorem w_c28 : (Jvm.Cond.code ({ cls := "java/util/ArrayList", name := "elementData", desc := "(I)Ljava/lang/Object;" } : Jvm.MethodName) jdk_38_method_18_code (2 : Nat) (Option.some (Jvm.ClassFile.FieldType.object "java/lang/Object"))).before args0 about1 = true := code_word (m := ⟨12, 4⟩) (meth := k12m4) (c := k12c4) (by decide +kernel) rfl rfl rfl (by decide +kernel)
set_option maxRecDepth 65536 in
theorem w_c29 : (Jvm.Cond.code ({ cls := "com/example/fixlore/fixlore/lang/GraphBuilderSuspendPinLaw", name := "endIs", desc := "(Lcom/example/fixlore/fixlore/lang/GraphBuilder$End;ILjava/lang/String;)Z" } : Jvm.MethodName) method_2_code (3 : Nat) (Option.some Jvm.ClassFile.FieldType.boolean)).before args0 about1 = true := code_word (m := ⟨1, 1⟩) (meth := k1m1) (c := k1c1) (by decide +kernel) rfl rfl rfl (by decide +kernel)
set_option maxRecDepth 65536 in
theorem w_c30 : (Jvm.Cond.code ({ cls := "com/example/fixlore/fixlore/lang/GraphBuilder$End", name := "from", desc := "()I" } : Jvm.MethodName) prog_28_method_5_code (1 : Nat) (Option.some Jvm.ClassFile.FieldType.int)).before args0 about1 = true := code_word (m := ⟨32, 1⟩) (meth := k32m1) (c := k32c1) (by decide +kernel) rfl rfl rfl (by decide +kernel)
set_option maxRecDepth 65536 in
theorem w_c31 : (Jvm.Cond.code ({ cls := "com/example/fixlore/fixlore/lang/GraphBuilder$End", name := "branch", desc := "()Ljava/lang/String;" } : Jvm.MethodName) prog_28_method_6_code (1 : Nat) (Option.some (Jvm.ClassFile.FieldType.object "java/lang/String"))).before args0 about1 = true := code_word (m := ⟨32, 2⟩) (meth := k32m2) (c := k32c2) (by decide +kernel) rfl rfl rfl (by decide +kernel)
set_option maxRecDepth 65536 in
theorem w_c32 : (Jvm.Cond.code ({ cls := "java/lang/String", name := "valueOf", desc := "(C)Ljava/lang/String;" } : Jvm.MethodName) jdk_42_method_139_code (1 : Nat) (Option.some (Jvm.ClassFile.FieldType.object "java/lang/String"))).before args0 about1 = true := code_word (m := ⟨28, 2⟩) (meth := k28m2) (c := k28c2) (by decide +kernel) rfl rfl rfl (by decide +kernel)
set_option maxRecDepth 65536 in
theorem w_c33 : (Jvm.Cond.code ({ cls := "java/lang/StringLatin1", name := "canEncode", desc := "(C)Z" } : Jvm.MethodName) jdk_43_method_3_code (1 : Nat) (Option.some Jvm.ClassFile.FieldType.boolean)).before args0 about1 = true := code_word (m := ⟨35, 1⟩) (meth := k35m1) (c := k35c1) (by decide +kernel) rfl rfl rfl (by decide +kernel)
set_option maxRecDepth 65536 in
theorem w_c34 : (Jvm.Cond.code ({ cls := "java/lang/StringLatin1", name := "toBytes", desc := "(C)[B" } : Jvm.MethodName) jdk_43_method_46_code (1 : Nat) (Option.some (Jvm.ClassFile.FieldType.array Jvm.ClassFile.FieldType.byte))).before args0 about1 = true := code_word (m := ⟨35, 2⟩) (meth := k35m2) (c := k35c2) (by decide +kernel) rfl rfl rfl (by decide +kernel)
set_option maxRecDepth 65536 in
theorem w_c35 : (Jvm.Cond.code ({ cls := "java/lang/String", name := "<init>", desc := "([BB)V" } : Jvm.MethodName) jdk_42_method_151_code (3 : Nat) (Option.none : Option Jvm.ClassFile.FieldType)).before args0 about1 = true := code_word (m := ⟨28, 3⟩) (meth := k28m3) (c := k28c3) (by decide +kernel) rfl rfl rfl (by decide +kernel)
set_option maxRecDepth 65536 in
theorem w_c36 : (Jvm.Cond.code ({ cls := "java/lang/String", name := "equals", desc := "(Ljava/lang/Object;)Z" } : Jvm.MethodName) jdk_42_method_66_code (3 : Nat) (Option.some Jvm.ClassFile.FieldType.boolean)).before args0 about1 = true := code_word (m := ⟨28, 1⟩) (meth := k28m1) (c := k28c1) (by decide +kernel) rfl rfl rfl (by decide +kernel)
def codes1 : List Jvm.Cond := [Jvm.Cond.code x code maxLocals ret, Jvm.Cond.code ({ cls := "com/example/fixlore/fixlore/lang/GraphBuilder", name := "<init>", desc := "(III)V" } : Jvm.MethodName) prog_26_method_1_code (5 : Nat) (Option.none : Option Jvm.ClassFile.FieldType), Jvm.Cond.code ({ cls := "java/lang/Object", name := "<init>", desc := "()V" } : Jvm.MethodName) object_method_1_code (1 : Nat) (Option.none : Option Jvm.ClassFile.FieldType), Jvm.Cond.code ({ cls := "java/util/ArrayList", name := "<init>", desc := "()V" } : Jvm.MethodName) jdk_38_method_2_code (1 : Nat) (Option.none : Option Jvm.ClassFile.FieldType), Jvm.Cond.code ({ cls := "java/util/AbstractList", name := "<init>", desc := "()V" } : Jvm.MethodName) jdk_39_method_1_code (1 : Nat) (Option.none : Option Jvm.ClassFile.FieldType), Jvm.Cond.code ({ cls := "java/util/AbstractCollection", name := "<init>", desc := "()V" } : Jvm.MethodName) jdk_22_method_1_code (1 : Nat) (Option.none : Option Jvm.ClassFile.FieldType), Jvm.Cond.code ({ cls := "java/util/HashMap", name := "<init>", desc := "()V" } : Jvm.MethodName) jdk_69_method_7_code (1 : Nat) (Option.none : Option Jvm.ClassFile.FieldType), Jvm.Cond.code ({ cls := "java/util/AbstractMap", name := "<init>", desc := "()V" } : Jvm.MethodName) jdk_71_method_1_code (1 : Nat) (Option.none : Option Jvm.ClassFile.FieldType), Jvm.Cond.code ({ cls := "java/util/HashSet", name := "<init>", desc := "()V" } : Jvm.MethodName) jdk_93_method_1_code (1 : Nat) (Option.none : Option Jvm.ClassFile.FieldType), Jvm.Cond.code ({ cls := "java/util/AbstractSet", name := "<init>", desc := "()V" } : Jvm.MethodName) jdk_91_method_1_code (1 : Nat) (Option.none : Option Jvm.ClassFile.FieldType), Jvm.Cond.code ({ cls := "java/util/ArrayDeque", name := "<init>", desc := "()V" } : Jvm.MethodName) jdk_21_method_3_code (1 : Nat) (Option.none : Option Jvm.ClassFile.FieldType), Jvm.Cond.code ({ cls := "com/example/fixlore/fixlore/lang/GraphBuilder", name := "add", desc := "(Lcom/example/fixlore/fixlore/lang/SemanticGraph$Kind;Ljava/lang/String;II)I" } : Jvm.MethodName) prog_26_method_2_code (6 : Nat) (Option.some Jvm.ClassFile.FieldType.int), Jvm.Cond.code ({ cls := "java/util/ArrayDeque", name := "isEmpty", desc := "()Z" } : Jvm.MethodName) jdk_21_method_38_code (1 : Nat) (Option.some Jvm.ClassFile.FieldType.boolean), Jvm.Cond.code ({ cls := "com/example/fixlore/fixlore/lang/GraphBuilder$Draft", name := "<init>", desc := "(Lcom/example/fixlore/fixlore/lang/SemanticGraph$Kind;Ljava/lang/String;III)V" } : Jvm.MethodName) prog_27_method_1_code (6 : Nat) (Option.none : Option Jvm.ClassFile.FieldType), Jvm.Cond.code ({ cls := "java/util/ArrayList", name := "add", desc := "(Ljava/lang/Object;)Z" } : Jvm.MethodName) jdk_38_method_25_code (2 : Nat) (Option.some Jvm.ClassFile.FieldType.boolean), Jvm.Cond.code ({ cls := "java/util/ArrayList", name := "add", desc := "(Ljava/lang/Object;[Ljava/lang/Object;I)V" } : Jvm.MethodName) jdk_38_method_24_code (4 : Nat) (Option.none : Option Jvm.ClassFile.FieldType), Jvm.Cond.code ({ cls := "java/util/ArrayList", name := "grow", desc := "()[Ljava/lang/Object;" } : Jvm.MethodName) jdk_38_method_7_code (1 : Nat) (Option.some (Jvm.ClassFile.FieldType.array (Jvm.ClassFile.FieldType.object "java/lang/Object"))), Jvm.Cond.code ({ cls := "java/util/ArrayList", name := "grow", desc := "(I)[Ljava/lang/Object;" } : Jvm.MethodName) jdk_38_method_6_code (4 : Nat) (Option.some (Jvm.ClassFile.FieldType.array (Jvm.ClassFile.FieldType.object "java/lang/Object"))), Jvm.Cond.code ({ cls := "java/lang/Math", name := "max", desc := "(II)I" } : Jvm.MethodName) jdk_29_method_65_code (2 : Nat) (Option.some Jvm.ClassFile.FieldType.int), Jvm.Cond.code ({ cls := "java/util/ArrayList", name := "size", desc := "()I" } : Jvm.MethodName) jdk_38_method_8_code (1 : Nat) (Option.some Jvm.ClassFile.FieldType.int), Jvm.Cond.code ({ cls := "com/example/fixlore/fixlore/lang/GraphBuilder", name := "follow", desc := "(ILjava/lang/String;)V" } : Jvm.MethodName) prog_26_method_14_code (3 : Nat) (Option.none : Option Jvm.ClassFile.FieldType), Jvm.Cond.code ({ cls := "com/example/fixlore/fixlore/lang/GraphBuilder", name := "join", desc := "(ILjava/lang/String;)V" } : Jvm.MethodName) prog_26_method_17_code (3 : Nat) (Option.none : Option Jvm.ClassFile.FieldType), Jvm.Cond.code ({ cls := "com/example/fixlore/fixlore/lang/GraphBuilder$End", name := "<init>", desc := "(ILjava/lang/String;)V" } : Jvm.MethodName) prog_28_method_1_code (3 : Nat) (Option.none : Option Jvm.ClassFile.FieldType), Jvm.Cond.code ({ cls := "java/lang/Record", name := "<init>", desc := "()V" } : Jvm.MethodName) jdk_30_method_1_code (1 : Nat) (Option.none : Option Jvm.ClassFile.FieldType), Jvm.Cond.code ({ cls := "com/example/fixlore/fixlore/lang/GraphBuilder", name := "suspend", desc := "()Ljava/util/List;" } : Jvm.MethodName) prog_26_method_15_code (2 : Nat) (Option.some (Jvm.ClassFile.FieldType.object "java/util/List")), Jvm.Cond.code ({ cls := "java/util/ArrayList", name := "get", desc := "(I)Ljava/lang/Object;" } : Jvm.MethodName) jdk_38_method_20_code (2 : Nat) (Option.some (Jvm.ClassFile.FieldType.object "java/lang/Object")), Jvm.Cond.code ({ cls := "java/util/Objects", name := "checkIndex", desc := "(II)I" } : Jvm.MethodName) jdk_31_method_17_code (2 : Nat) (Option.some Jvm.ClassFile.FieldType.int), Jvm.Cond.code ({ cls := "jdk/internal/util/Preconditions", name := "checkIndex", desc := "(IILjava/util/function/BiFunction;)I" } : Jvm.MethodName) jdk_41_method_11_code (3 : Nat) (Option.some Jvm.ClassFile.FieldType.int), Jvm.Cond.code ({ cls := "java/util/ArrayList", name := "elementData", desc := "(I)Ljava/lang/Object;" } : Jvm.MethodName) jdk_38_method_18_code (2 : Nat) (Option.some (Jvm.ClassFile.FieldType.object "java/lang/Object")), Jvm.Cond.code ({ cls := "com/example/fixlore/fixlore/lang/GraphBuilderSuspendPinLaw", name := "endIs", desc := "(Lcom/example/fixlore/fixlore/lang/GraphBuilder$End;ILjava/lang/String;)Z" } : Jvm.MethodName) method_2_code (3 : Nat) (Option.some Jvm.ClassFile.FieldType.boolean), Jvm.Cond.code ({ cls := "com/example/fixlore/fixlore/lang/GraphBuilder$End", name := "from", desc := "()I" } : Jvm.MethodName) prog_28_method_5_code (1 : Nat) (Option.some Jvm.ClassFile.FieldType.int), Jvm.Cond.code ({ cls := "com/example/fixlore/fixlore/lang/GraphBuilder$End", name := "branch", desc := "()Ljava/lang/String;" } : Jvm.MethodName) prog_28_method_6_code (1 : Nat) (Option.some (Jvm.ClassFile.FieldType.object "java/lang/String")), Jvm.Cond.code ({ cls := "java/lang/String", name := "valueOf", desc := "(C)Ljava/lang/String;" } : Jvm.MethodName) jdk_42_method_139_code (1 : Nat) (Option.some (Jvm.ClassFile.FieldType.object "java/lang/String")), Jvm.Cond.code ({ cls := "java/lang/StringLatin1", name := "canEncode", desc := "(C)Z" } : Jvm.MethodName) jdk_43_method_3_code (1 : Nat) (Option.some Jvm.ClassFile.FieldType.boolean), Jvm.Cond.code ({ cls := "java/lang/StringLatin1", name := "toBytes", desc := "(C)[B" } : Jvm.MethodName) jdk_43_method_46_code (1 : Nat) (Option.some (Jvm.ClassFile.FieldType.array Jvm.ClassFile.FieldType.byte)), Jvm.Cond.code ({ cls := "java/lang/String", name := "<init>", desc := "([BB)V" } : Jvm.MethodName) jdk_42_method_151_code (3 : Nat) (Option.none : Option Jvm.ClassFile.FieldType), Jvm.Cond.code ({ cls := "java/lang/String", name := "equals", desc := "(Ljava/lang/Object;)Z" } : Jvm.MethodName) jdk_42_method_66_code (3 : Nat) (Option.some Jvm.ClassFile.FieldType.boolean)]
set_option maxRecDepth 65536 in
theorem codes_eq : words1.filter isCode = codes1 := rfl
theorem w_codes : ∀ c ∈ words1.filter isCode, c.before args0 about1 = true := by
  rw [codes_eq]
  intro c hc
  simp only [codes1, List.mem_cons, List.not_mem_nil, or_false] at hc
  rcases hc with rfl | rfl | rfl | rfl | rfl | rfl | rfl | rfl | rfl | rfl | rfl | rfl | rfl | rfl | rfl | rfl | rfl | rfl | rfl | rfl | rfl | rfl | rfl | rfl | rfl | rfl | rfl | rfl | rfl | rfl | rfl | rfl | rfl | rfl | rfl | rfl | rfl
  · exact w_c0
  · exact w_c1
  · exact w_c2
  · exact w_c3
  · exact w_c4
  · exact w_c5
  · exact w_c6
  · exact w_c7
  · exact w_c8
  · exact w_c9
  · exact w_c10
  · exact w_c11
  · exact w_c12
  · exact w_c13
  · exact w_c14
  · exact w_c15
  · exact w_c16
  · exact w_c17
  · exact w_c18
  · exact w_c19
  · exact w_c20
  · exact w_c21
  · exact w_c22
  · exact w_c23
  · exact w_c24
  · exact w_c25
  · exact w_c26
  · exact w_c27
  · exact w_c28
  · exact w_c29
  · exact w_c30
  · exact w_c31
  · exact w_c32
  · exact w_c33
  · exact w_c34
  · exact w_c35
  · exact w_c36
set_option maxRecDepth 65536 in
theorem w_t1 : (words1.take 24).all (fun c => isCode c || c.before args0 about1) = true := by decide +kernel
set_option maxRecDepth 65536 in
theorem w_t2 : ((words1.drop 24).take 24).all (fun c => isCode c || c.before args0 about1) = true := by decide +kernel
set_option maxRecDepth 65536 in
theorem w_t3 : (((words1.drop 24).drop 24).take 24).all (fun c => isCode c || c.before args0 about1) = true := by decide +kernel
set_option maxRecDepth 65536 in
theorem w_t4 : ((((words1.drop 24).drop 24).drop 24).take 24).all (fun c => isCode c || c.before args0 about1) = true := by decide +kernel
set_option maxRecDepth 65536 in
theorem w_t5 : (((((words1.drop 24).drop 24).drop 24).drop 24).take 24).all (fun c => isCode c || c.before args0 about1) = true := by decide +kernel
set_option maxRecDepth 65536 in
theorem w_t6 : ((((((words1.drop 24).drop 24).drop 24).drop 24).drop 24).take 24).all (fun c => isCode c || c.before args0 about1) = true := by decide +kernel
set_option maxRecDepth 65536 in
theorem w_t7 : (((((((words1.drop 24).drop 24).drop 24).drop 24).drop 24).drop 24).take 24).all (fun c => isCode c || c.before args0 about1) = true := by decide +kernel
set_option maxRecDepth 65536 in
theorem w_t8 : ((((((((words1.drop 24).drop 24).drop 24).drop 24).drop 24).drop 24).drop 24).take 24).all (fun c => isCode c || c.before args0 about1) = true := by decide +kernel
set_option maxRecDepth 65536 in
theorem w_t9 : (((((((((words1.drop 24).drop 24).drop 24).drop 24).drop 24).drop 24).drop 24).drop 24).take 24).all (fun c => isCode c || c.before args0 about1) = true := by decide +kernel
set_option maxRecDepth 65536 in
theorem w_t10 : ((((((((((words1.drop 24).drop 24).drop 24).drop 24).drop 24).drop 24).drop 24).drop 24).drop 24).take 24).all (fun c => isCode c || c.before args0 about1) = true := by decide +kernel
set_option maxRecDepth 65536 in
theorem w_t11 : (((((((((((words1.drop 24).drop 24).drop 24).drop 24).drop 24).drop 24).drop 24).drop 24).drop 24).drop 24).take 24).all (fun c => isCode c || c.before args0 about1) = true := by decide +kernel
set_option maxRecDepth 65536 in
theorem w_t12 : ((((((((((((words1.drop 24).drop 24).drop 24).drop 24).drop 24).drop 24).drop 24).drop 24).drop 24).drop 24).drop 24).take 24).all (fun c => isCode c || c.before args0 about1) = true := by decide +kernel
set_option maxRecDepth 65536 in
theorem w_t13 : ((((((((((((words1.drop 24).drop 24).drop 24).drop 24).drop 24).drop 24).drop 24).drop 24).drop 24).drop 24).drop 24).drop 24).all (fun c => isCode c || c.before args0 about1) = true := by decide +kernel
theorem w_tables : (allAtoms (Jvm.Cond.code x code maxLocals ret :: tables_1)).before args0 about1 = true := by
  rw [allAtoms_all]
  show words1.all (fun c => c.before args0 about1) = true
  refine all_split ?_ w_codes
  rw [← List.take_append_drop 24 words1, List.all_append, w_t1, ← List.take_append_drop 24 (words1.drop 24), List.all_append, w_t2, ← List.take_append_drop 24 ((words1.drop 24).drop 24), List.all_append, w_t3, ← List.take_append_drop 24 (((words1.drop 24).drop 24).drop 24), List.all_append, w_t4, ← List.take_append_drop 24 ((((words1.drop 24).drop 24).drop 24).drop 24), List.all_append, w_t5, ← List.take_append_drop 24 (((((words1.drop 24).drop 24).drop 24).drop 24).drop 24), List.all_append, w_t6, ← List.take_append_drop 24 ((((((words1.drop 24).drop 24).drop 24).drop 24).drop 24).drop 24), List.all_append, w_t7, ← List.take_append_drop 24 (((((((words1.drop 24).drop 24).drop 24).drop 24).drop 24).drop 24).drop 24), List.all_append, w_t8, ← List.take_append_drop 24 ((((((((words1.drop 24).drop 24).drop 24).drop 24).drop 24).drop 24).drop 24).drop 24), List.all_append, w_t9, ← List.take_append_drop 24 (((((((((words1.drop 24).drop 24).drop 24).drop 24).drop 24).drop 24).drop 24).drop 24).drop 24), List.all_append, w_t10, ← List.take_append_drop 24 ((((((((((words1.drop 24).drop 24).drop 24).drop 24).drop 24).drop 24).drop 24).drop 24).drop 24).drop 24), List.all_append, w_t11, ← List.take_append_drop 24 (((((((((((words1.drop 24).drop 24).drop 24).drop 24).drop 24).drop 24).drop 24).drop 24).drop 24).drop 24).drop 24), List.all_append, w_t12, w_t13]
  rfl
set_option maxRecDepth 65536 in
theorem w_rest : rest_1_c.before args0 about1 = true := by decide +kernel
set_option maxRecDepth 65536 in
theorem w_case : (Jvm.Cond.and given_1 narrow_1).before args0 about1 = true := by decide +kernel
theorem w_applies : (headSpec (Jvm.Cond.code x code maxLocals ret :: tables_1) room_1).applies x e0.platform about1 = true :=
  (Spec.applies_iff w_frames).mpr ⟨w_running, w_runnable, w_alone, w_named, w_hears, w_ripe, w_room, w_tables⟩
theorem atStart : AtStart classFile x code maxLocals ret World_1 tables_1 room_1 Calls_1 rest_1 Pre_1 launch0 p0 e0 about1 theMethod args0 below0 :=
  ⟨lists_1, trivial, launch0.admits_env _ _ _, launch0.least_env, fairChoices_fair.cas, fairChoices_fair.clock, w_frames, w_args, w_heap, w_applies, trivial, w_rest, w_case⟩
end start1
theorem witness_1 : WitnessClaimed_1 := ⟨start1.p0, start1.e0, start1.about1, start1.theMethod, start1.args0, start1.below0, start1.atStart⟩
end Jvm.Pilot.@@N@@

import JvmDerived
import JvmDerived.Pilot.@@N@@Statement
import JvmDerived.Pilot.@@N@@Code
set_option linter.unusedVariables false
set_option linter.unusedSimpArgs false
@@BLOCK:NumsL.lean.txt@@
namespace Jvm.RoadKit
open Sem ClassFile Op Lib Jvm.Stand Jvm.Free Jvm.LawKit
section New
variable {p : Program} {l : Launch} {e : Env} {R : Room} {s : State} {m : MethodId} {args : Array Value} {below : List Frame} {meth : Method} {c : Code} {T : State} {locs : List Loc} {cells slots : Nat}
theorem retI (X : Stand p l e R s m args below meth c T locs cells slots) (hx : p.tables.exec = Jvm.exec) {pc : Nat} {Ls : Array Slot} {z : Int32} {rest : List Value} (hret : meth.sig.returnType = some .int) (hd : decode c.code pc = .ok (.ireturn, 1)) {fs : List Frame}
    (hl : ∀ (f : JFrame) (acts : List Action), f.method = m → f.locked = none → f.entered = [] → (doReturn e (T.setTop f) acts (some (.int z))).1 = T.setFrames fs) : Steps p.tables e below (T.setTop (mkF m pc Ls (.int z :: rest))) (T.setFrames fs) := by
  have hm' : T.vm.method? m = some meth := X.method'
  have hn : narrow .int (.int z) = .int z := rfl
  show Steps p.tables e below (T.setTop { method := m, pc := pc, locals := Ls, stack := _ :: rest, locked := none }) _
  jvm_step X.here [X.here.top, hx, hd, hm', hret, hn]
  first | (intro acts; rw [hl _ acts rfl rfl rfl]) | rw [hl _ _ rfl rfl rfl]
  exact Steps.refl _
end New
end Jvm.RoadKit
namespace Jvm.Pilot.@@N@@
open Jvm Jvm.ClassFile Sem Op Lib Jvm.Free Jvm.Stand Jvm.LawKit Jvm.RoadKit Bundle Jvm.Pilot.@@N@@.Jvm.D
theorem own_eqint {args : Array Value} {first s : State} {o : Option Outcome} {idx : List Nat} {t : Term} {k : Int32} (h : (Jvm.Cond.eq t (.int k)).value args first o s idx = some true) : t.eval args first o idx s = some (.int k) := by
  obtain ⟨x, y, hx, hy, hk, hk'⟩ := cmp_v (Or.inl h)
  have ey : y = .int k := (Option.some.inj ((Term.int_eval k).symm.trans hy)).symm
  subst ey
  obtain ⟨z, rfl⟩ := hk'
  have hv : (Jvm.Cond.eq t (.int k)).value args first o s idx = some (decide (z = k)) := by simp [Cond.value, hx, hy]
  have := gotT hv h
  rw [hx, this]
theorem own_eqref {args : Array Value} {first s : State} {o : Option Outcome} {idx : List Nat} {t u : Term} {v : Value} (h : (Jvm.Cond.eq t u).value args first o s idx = some true) (hu : u.eval args first o idx s = some v) (hv : v.isRef = true) : t.eval args first o idx s = some v := by
  obtain ⟨x, y, hx, hy, hk, hk'⟩ := cmp_v (Or.inl h)
  have ey : y = v := Option.some.inj (hy.symm.trans hu)
  subst ey
  have hxr : x.isRef = true := by cases y <;> simp [Value.isRef] at hv <;> exact hk'.2
  have := gotT (eq_R hx hy hxr hv) h
  rw [hx, this]
theorem own_fld {args : Array Value} {s : State} {t : Term} {C n d : String} {k : Int32} {a : Addr} (ht : t.eval args s none [] s = some (.ref a)) (h : (Jvm.Cond.eq (.field t C n d) (.int k)).value args s none s [] = some true) : Fld s s.heap a C n d (.int k) := Fld.start ((fld_at ht).symm.trans (own_eqint h))
theorem own_fld_inj {Z : State} {h : Heap} {a : Addr} {C n d : String} {v w : Value} (F : Fld Z h a C n d v) (G : Fld Z h a C n d w) : v = w := by
  obtain ⟨c1, cf1, k1, i1, f1, h1, h2, -, -, -, -, h3⟩ := F
  obtain ⟨c2, cf2, k2, i2, f2, g1, g2, -, -, -, -, g3⟩ := G
  rw [h1] at g1; cases g1
  rw [h2] at g2; cases g2
  exact Option.some.inj (h3.symm.trans g3)
theorem own_ne {Z : State} {h : Heap} {a b : Addr} {C n d : String} {i j : Int32} (F : Fld Z h a C n d (.int i)) (G : Fld Z h b C n d (.int j)) (hij : ¬ i = j) : ¬ a = b := fun e => by
  subst e
  exact hij (Value.int.inj (own_fld_inj F G))
theorem own_keep_ext {h h' : Heap} (K : Keep h h' []) : Ext h h' := ⟨K.1, fun a c q => K.2.1 a c q nin0⟩
theorem own_sta_keep {Z : State} {h h' : Heap} {C n d C' : String} {v : Value} {b : Addr} (F : Sta Z h C n d v) (K : Keep h h' [b]) (E : Exa Z h b C') : Sta Z h' C n d v := by
  obtain ⟨cf, i, k, f, st, cell, h1, h2, h3, h4, h5, h6, h7⟩ := F
  obtain ⟨cell', k', g1, g2, g3, g4, g5⟩ := E
  refine ⟨cf, i, k, f, st, cell, h1, h2, h3, h4, K.2.1 st cell h5 (ninS (fun q => ?_) nin0), h6, h7⟩
  subst q
  rw [h5] at g1; cases g1
  rw [h6] at g4; cases g4
theorem own_at {s : State} {w : Addr} {cl : Cell} {ty : FieldType} (A : Arr s s.heap w cl ty) : s.arrayAt? w = some cl := Arr.fin (State.Warmed39.refl s).alike A
theorem own_len {args : Array Value} {s : State} {t : Term} {k : Int32} {w : Addr} {cl : Cell} {ty : FieldType} (ht : t.eval args s none [] s = some (.ref w)) (A : Arr s s.heap w cl ty) (h : (Jvm.Cond.eq (.length t) (.int k)).value args s none s [] = some true) : cl.slots.size = k.toNatClampNeg ∧ ¬ k < 0 ∧ cl.slots.size < 2 ^ 31 := by
  have e := own_eqint h
  have ha := own_at A
  by_cases h1 : cl.slots.size < 2 ^ 31
  · rw [len_f ht ha h1] at e
    have e2 : cl.slots.size.toInt32 = k := Value.int.inj (Option.some.inj e)
    subst e2
    have e3 := len_toInt h1
    refine ⟨?_, ?_, h1⟩
    · show cl.slots.size = (cl.slots.size.toInt32).toInt.toNat
      rw [e3]; rfl
    · rw [Int32.lt_iff_toInt_lt, e3]
      show ¬ ((cl.slots.size : Int) < 0)
      omega
  · simp [Term.eval, ht, ha, h1] at e
theorem own_idx {i : Nat} (hi : i < 2 ^ 31) : i.toInt32.toNatClampNeg = i ∧ ¬ i.toInt32 < 0 := by
  have e3 := len_toInt hi
  refine ⟨?_, ?_⟩
  · show (i.toInt32).toInt.toNat = i
    rw [e3]; rfl
  · rw [Int32.lt_iff_toInt_lt, e3]
    show ¬ ((i : Int) < 0)
    omega
theorem own_elem {args : Array Value} {s : State} {t : Term} {j v : Int32} {w : Addr} {cl : Cell} {ty : FieldType} (ht : t.eval args s none [] s = some (.ref w)) (A : Arr s s.heap w cl ty) (h : (Jvm.Cond.eq (.elem t (.int j)) (.int v)).value args s none s [] = some true) (hj : ¬ j < 0) : cl.slots[j.toNatClampNeg]? = some (.int v) := by
  have e := own_eqint h
  rw [elem_f ht (Term.int_eval j) (own_at A) hj] at e
  exact e
theorem own_elemR {args : Array Value} {s : State} {t u : Term} {j : Int32} {v : Value} {w : Addr} {cl : Cell} {ty : FieldType} (ht : t.eval args s none [] s = some (.ref w)) (A : Arr s s.heap w cl ty) (h : (Jvm.Cond.eq (.elem t (.int j)) u).value args s none s [] = some true) (hu : u.eval args s none [] s = some v) (hv : v.isRef = true) (hj : ¬ j < 0) : cl.slots[j.toNatClampNeg]? = some v := by
  have e := own_eqref h hu hv
  rw [elem_f ht (Term.int_eval j) (own_at A) hj] at e
  exact e
theorem own_or {args : Array Value} {first s : State} {o : Option Outcome} {idx : List Nat} {a b : Jvm.Cond} (h : (Jvm.Cond.or a b).value args first o s idx = some true) (ha : a.value args first o s idx = some false) : b.value args first o s idx = some true := by
  simpa [Cond.value, ha] using h
theorem own_ltl {i : Nat} {k : Int32} (hi : i < 2 ^ 31) (h : (i : Int) < k.toInt) : i.toInt32 < k := by
  rw [Int32.lt_iff_toInt_lt, len_toInt hi]; exact h
theorem own_gel {i : Nat} {k : Int32} (hi : i < 2 ^ 31) (h : k.toInt ≤ (i : Int)) : ¬ i.toInt32 < k := by
  rw [Int32.lt_iff_toInt_lt, len_toInt hi]; omega
theorem own_atidx {args : Array Value} {s : State} {t : Term} {v : Int32} {w : Addr} {cl : Cell} {ty : FieldType} {i : Nat} (ht : t.eval args s none [i] s = some (.ref w)) (A : Arr s s.heap w cl ty) (hi : i < 2 ^ 31) (h : (Jvm.Cond.eq (.elem t (.index 0)) (.int v)).value args s none s [i] = some true) : cl.slots[i]? = some (.int v) := by
  have e := own_eqint h
  rw [elem_f (j := i.toInt32) ht rfl (own_at A) (own_idx hi).2, (own_idx hi).1] at e
  exact e
theorem own_all_a {args : Array Value} {s : State} {t : Term} {K v : Int32} {w : Addr} {cl : Cell} {ty : FieldType} (ht : ∀ idx, t.eval args s none idx s = some (.ref w)) (A : Arr s s.heap w cl ty) (hz : cl.slots.size < 2 ^ 31)
    (h : (Jvm.Cond.all t (.or (.le (.int K) (.index 0)) (.eq (.elem t (.index 0)) (.int v)))).value args s none s [] = some true) (i : Nat) (hi : i < cl.slots.size) (hK : i.toInt32 < K) : cl.slots[i]? = some (.int v) := by
  have h1 := Cond.all_elim (ht []) (own_at A) h i hi
  have h2 := own_or h1 (by
    have q : (Jvm.Cond.le (.int K) (.index 0)).value args s none s [i] = some (decide (K ≤ i.toInt32)) := Cond.le_ints rfl rfl
    rw [q]; simp [Int32.not_le.mpr hK])
  exact own_atidx (ht _) A (by omega) h2
theorem own_all_b {args : Array Value} {s : State} {t : Term} {lo K v : Int32} {w : Addr} {cl : Cell} {ty : FieldType} (ht : ∀ idx, t.eval args s none idx s = some (.ref w)) (A : Arr s s.heap w cl ty) (hz : cl.slots.size < 2 ^ 31)
    (h : (Jvm.Cond.all t (.or (.lt (.index 0) (.int lo)) (.or (.le (.int K) (.index 0)) (.eq (.elem t (.index 0)) (.int v))))).value args s none s [] = some true) (i : Nat) (hi : i < cl.slots.size) (hL : ¬ i.toInt32 < lo) (hK : i.toInt32 < K) : cl.slots[i]? = some (.int v) := by
  have h1 := Cond.all_elim (ht []) (own_at A) h i hi
  have h2 := own_or h1 (by
    have q : (Jvm.Cond.lt (.index 0) (.int lo)).value args s none s [i] = some (decide (i.toInt32 < lo)) := Cond.lt_ints rfl rfl
    rw [q]; simp [hL])
  have h3 := own_or h2 (by
    have q : (Jvm.Cond.le (.int K) (.index 0)).value args s none s [i] = some (decide (K ≤ i.toInt32)) := Cond.le_ints rfl rfl
    rw [q]; simp [Int32.not_le.mpr hK])
  exact own_atidx (ht _) A (by omega) h3
def ruleW (k : Int32) (wP wI : Addr) : Addr := if (k &&& (1 : Int32)) = (0 : Int32) then wP else wI
def eqW (e1 e2 : Addr) (w1 w2 p1 p2 : Int32) : Int32 := if e1 = e2 then if w1 = w2 then if p1 = p2 then 1 else 0 else 0 else 0
theorem d1_0 : decode method_2_code 0 = .ok (.iload_n 0, 1) := by decide +kernel
theorem d1_1 : decode method_2_code 1 = .ok (.iconst 1, 1) := by decide +kernel
theorem d1_2 : decode method_2_code 2 = .ok (.iand, 1) := by decide +kernel
theorem d1_3 : decode method_2_code 3 = .ok (.ifCond .eq 7, 3) := by decide +kernel
theorem d1_6 : decode method_2_code 6 = .ok (.getstatic 7, 3) := by decide +kernel
theorem d1_9 : decode method_2_code 9 = .ok (.areturn, 1) := by decide +kernel
theorem d1_10 : decode method_2_code 10 = .ok (.getstatic 13, 3) := by decide +kernel
theorem d1_13 : decode method_2_code 13 = .ok (.areturn, 1) := by decide +kernel
theorem pn_rm1 : plainName "com/example/payspread/payspread/model/ExcessRulesEqualsPinLaw" = true := by first | (simp [plainName, overriddenIn]; done) | decide +kernel
theorem ef_rm1 (m : MethodId) (p1 : Int32) : entryFrame m #[(.int p1)] 1 = mkF m 0 #[.val (.int p1)] [] := by first | (simp [entryFrame, mkF, argsToLocals, Value.category]; done) | rfl
def Q_rm1 (Z : State) (p1 : Int32) (wP : Addr) (wI : Addr) (r : Addr) (h0 : Heap) (n0 : Nat) (v : Option Value) (h : Heap) (L : List Loc) : Prop := v = some (.ref r) ∧ Fr n0 L ∧ h = h0
set_option maxRecDepth 65536 in
set_option maxHeartbeats 40000000 in
theorem rm1 (l : Launch) (Z : State) (a0 : Array Value) (hw : ∀ d ∈ tables_1, d.before a0 Z = true) (ws : List Jvm.Cond) (p1 : Int32) (wP : Addr) (wI : Addr) (r : Addr) (h0 : Heap) (n0 : Nat) (Z0 : n0 ≤ h0.size) (S_PRINCIPAL : Sta Z h0 "com/example/payspread/payspread/model/ExcessRules$ExcessRule" "PRINCIPAL" "Lcom/example/payspread/payspread/model/ExcessRules$ExcessRule;" (.ref wP)) (S_INSTALLMENTS : Sta Z h0 "com/example/payspread/payspread/model/ExcessRules$ExcessRule" "INSTALLMENTS" "Lcom/example/payspread/payspread/model/ExcessRules$ExcessRule;" (.ref wI)) (hret : ruleW p1 wP wI = r) :
    MetFree l (⟨"com/example/payspread/payspread/model/ExcessRulesEqualsPinLaw", "rule", "(I)Lcom/example/payspread/payspread/model/ExcessRules$ExcessRule;"⟩ : MethodName) (head1 (Jvm.Cond.code (⟨"com/example/payspread/payspread/model/ExcessRulesEqualsPinLaw", "rule", "(I)Lcom/example/payspread/payspread/model/ExcessRules$ExcessRule;"⟩ : MethodName) method_2_code 1 (some (.object "com/example/payspread/payspread/model/ExcessRules$ExcessRule")) :: ws) ({ frames := 0, cells := 0, slots := 0, locals := 0 } : Room)) (fun a U => a = #[(.int p1)] ∧ Z.Warmed39 U.vm ∧ U.heap = h0) (fun _ _ _ _ _ => True) (fun _ U o U' => ∃ v L, o = .returned v ∧ Q_rm1 Z p1 wP wI r h0 n0 v U'.heap L ∧ FrameEnd U o U' L ({ frames := 0, cells := 0, slots := 0, locals := 0 } : Room).cells ({ frames := 0, cells := 0, slots := 0, locals := 0 } : Room).slots) := by
  refine MetFree.of_bodySF (plainFor_of_name pn_rm1) hisR ?_
  intro p e s m args below meth c s₁ Bd hml0 hP hK
  obtain ⟨rfl, hZ, hh⟩ := hP
  have hx := Bd.exec
  have hby := Bd.bytes
  have hml : c.maxLocals = 1 := hml0
  have hown : s.vm.findClass "com/example/payspread/payspread/model/ExcessRulesEqualsPinLaw" = some m.cls := findClass_of_methodNamed Bd.named
  have hnm := (name_of_methodNamed Bd.named Bd.method).1
  have X0 : Stand p l e ({ frames := 0, cells := 0, slots := 0, locals := 0 } : Room) s m #[(.int p1)] below meth c s₁ [] 0 0 := Stand.of_body Bd
  have e0 : s₁.heap = h0 := by rw [← hh, Bd.state]; rfl
  have N0 := Fr.nil n0
  have pre0 : ∀ t, Steps p.tables e below (s₁.setTop (mkF m 0 #[.val (.int p1)] [])) t → Steps p.tables e below (s₁.setTop (entryFrame m #[(.int p1)] 1)) t := fun t k => castTop (ef_rm1 m p1) k
  have pre1 : ∀ t, Steps p.tables e below (s₁.setTop (mkF m 3 #[.val (.int p1)] [(.int (p1 &&& (1 : Int32)))])) t → Steps p.tables e below (s₁.setTop (entryFrame m #[(.int p1)] 1)) t := fun t k => pre0 t (by
      show Steps p.tables e below (s₁.setTop (mkF m 0 #[.val (.int p1)] [])) _
      refine XS.iloadN X0.here hx rfl (hb hby d1_0) rfl ?_
      show Steps p.tables e below (s₁.setTop (mkF m 1 #[.val (.int p1)] [(.int p1)])) _
      refine XS.iconst X0.here hx rfl (hb hby d1_1) ?_
      show Steps p.tables e below (s₁.setTop (mkF m 2 #[.val (.int p1)] [(.int (1 : Int32)), (.int p1)])) _
      refine XS.iand X0.here hx rfl (hb hby d1_2) rfl ?_
      exact k)
  by_cases hc2 : (p1 &&& (1 : Int32)) = (0 : Int32)
  · obtain ⟨T3, X3, e3, st3⟩ := getS2 X0 hx hZ hown (host := "") (Or.inl (hw _ (List.mem_of_getElem? (i := 7) rfl))) Via.refl e0 S_PRINCIPAL (g := (mkF m 10 #[.val (.int p1)] [])) rfl (hb hby d1_10)
    obtain ⟨fs, hr, hrun, hended, hW, hsame⟩ := X3.leave (v := some (.ref wP)) (fun h => by rw [Bd.returns] at h; cases h)
    refine ⟨_, _, pre1 _ ?_, hrun, hended, _, _, rfl, ?_, ⟨_, rfl⟩, hW, hsame.mono (by decide) (by decide)⟩
    · show Steps p.tables e below (s₁.setTop (mkF m 3 #[.val (.int p1)] [(.int (p1 &&& (1 : Int32)))])) _
      refine XS.ifYes X0.here hx rfl (pc0 := 3) (pc' := 10) rfl (hb hby d1_3) rfl ((if0 _ _).trans (teq hc2).1) (by decide) (by decide) ?_
      show Steps p.tables e below (s₁.setTop (mkF m 10 #[.val (.int p1)] [])) _
      refine st3 _ ?_
      show Steps p.tables e below (T3.setTop (mkF m 13 #[.val (.int p1)] [(.ref wP)])) _
      jvm_step X3.here [X3.here.top, hx, (hb hby d1_13), X3.method', Bd.returns, Value.isRef, FieldType.isReference]
      first | (intro acts; rw [hr _ acts rfl rfl rfl]) | rw [hr _ _ rfl rfl rfl]
      exact Steps.refl _
    · show Q_rm1 Z p1 wP wI r h0 n0 _ T3.heap _
      rw [e3]
      exact ⟨by rw [← hret]; simp only [ruleW, if_pos hc2], N0, rfl⟩
  · obtain ⟨T4, X4, e4, st4⟩ := getS2 X0 hx hZ hown (host := "") (Or.inl (hw _ (List.mem_of_getElem? (i := 22) rfl))) Via.refl e0 S_INSTALLMENTS (g := (mkF m 6 #[.val (.int p1)] [])) rfl (hb hby d1_6)
    obtain ⟨fs, hr, hrun, hended, hW, hsame⟩ := X4.leave (v := some (.ref wI)) (fun h => by rw [Bd.returns] at h; cases h)
    refine ⟨_, _, pre1 _ ?_, hrun, hended, _, _, rfl, ?_, ⟨_, rfl⟩, hW, hsame.mono (by decide) (by decide)⟩
    · show Steps p.tables e below (s₁.setTop (mkF m 3 #[.val (.int p1)] [(.int (p1 &&& (1 : Int32)))])) _
      refine XS.ifNo X0.here hx rfl (hb hby d1_3) rfl ((if0 _ _).trans (feq hc2).1) ?_
      show Steps p.tables e below (s₁.setTop (mkF m 6 #[.val (.int p1)] [])) _
      refine st4 _ ?_
      show Steps p.tables e below (T4.setTop (mkF m 9 #[.val (.int p1)] [(.ref wI)])) _
      jvm_step X4.here [X4.here.top, hx, (hb hby d1_9), X4.method', Bd.returns, Value.isRef, FieldType.isReference]
      first | (intro acts; rw [hr _ acts rfl rfl rfl]) | rw [hr _ _ rfl rfl rfl]
      exact Steps.refl _
    · show Q_rm1 Z p1 wP wI r h0 n0 _ T4.heap _
      rw [e4]
      exact ⟨by rw [← hret]; simp only [ruleW, if_neg hc2], N0, rfl⟩
theorem d2_0 : decode prog_34_method_2_code 0 = .ok (.aload_n 0, 1) := by decide +kernel
theorem d2_1 : decode prog_34_method_2_code 1 = .ok (.invokespecial 7, 3) := by decide +kernel
theorem d2_4 : decode prog_34_method_2_code 4 = .ok (.aload_n 0, 1) := by decide +kernel
theorem d2_5 : decode prog_34_method_2_code 5 = .ok (.aload_n 1, 1) := by decide +kernel
theorem d2_6 : decode prog_34_method_2_code 6 = .ok (.putfield 12, 3) := by decide +kernel
theorem d2_9 : decode prog_34_method_2_code 9 = .ok (.aload_n 0, 1) := by decide +kernel
theorem d2_10 : decode prog_34_method_2_code 10 = .ok (.iload_n 2, 1) := by decide +kernel
theorem d2_11 : decode prog_34_method_2_code 11 = .ok (.putfield 16, 3) := by decide +kernel
theorem d2_14 : decode prog_34_method_2_code 14 = .ok (.aload_n 0, 1) := by decide +kernel
theorem d2_15 : decode prog_34_method_2_code 15 = .ok (.iload_n 3, 1) := by decide +kernel
theorem d2_16 : decode prog_34_method_2_code 16 = .ok (.putfield 20, 3) := by decide +kernel
theorem d2_19 : decode prog_34_method_2_code 19 = .ok (.return_, 1) := by decide +kernel
theorem pn_rm2 : plainName "com/example/payspread/payspread/model/ExcessRules" = true := by first | (simp [plainName, overriddenIn]; done) | decide +kernel
theorem ef_rm2 (m : MethodId) (a1 : Addr) (a2 : Addr) (p3 : Int32) (p4 : Int32) : entryFrame m #[(.ref a1), (.ref a2), (.int p3), (.int p4)] 4 = mkF m 0 #[.val (.ref a1), .val (.ref a2), .val (.int p3), .val (.int p4)] [] := by first | (simp [entryFrame, mkF, argsToLocals, Value.category]; done) | rfl
def Q_rm2 (Z : State) (a1 : Addr) (a2 : Addr) (p3 : Int32) (p4 : Int32) (h0 : Heap) (n0 : Nat) (v : Option Value) (h : Heap) (L : List Loc) : Prop := v = none ∧ Fr n0 L ∧ Keep h0 h [a1] ∧ Exa Z h a1 "com/example/payspread/payspread/model/ExcessRules" ∧ Fld Z h a1 "com/example/payspread/payspread/model/ExcessRules" "excessRule" "Lcom/example/payspread/payspread/model/ExcessRules$ExcessRule;" (.ref a2) ∧ Fld Z h a1 "com/example/payspread/payspread/model/ExcessRules" "wholeInstallmentsFirst" "Z" (.int (nar .boolean p3)) ∧ Fld Z h a1 "com/example/payspread/payspread/model/ExcessRules" "autoPayoff" "Z" (.int (nar .boolean p4))
set_option maxRecDepth 65536 in
set_option maxHeartbeats 40000000 in
theorem rm2 (l : Launch) (Z : State) (a0 : Array Value) (hw : ∀ d ∈ tables_1, d.before a0 Z = true) (ws : List Jvm.Cond) (a1 : Addr) (a2 : Addr) (p3 : Int32) (p4 : Int32) (h0 : Heap) (n0 : Nat) (Z0 : n0 ≤ h0.size) (E_a1 : Exa Z h0 a1 "com/example/payspread/payspread/model/ExcessRules") (F_1 : Fld Z h0 a1 "com/example/payspread/payspread/model/ExcessRules" "excessRule" "Lcom/example/payspread/payspread/model/ExcessRules$ExcessRule;" .null) (F_2 : Fld Z h0 a1 "com/example/payspread/payspread/model/ExcessRules" "wholeInstallmentsFirst" "Z" (.int (0 : Int32))) (F_3 : Fld Z h0 a1 "com/example/payspread/payspread/model/ExcessRules" "autoPayoff" "Z" (.int (0 : Int32))) (g_a1 : n0 ≤ a1) :
    MetFree l (⟨"com/example/payspread/payspread/model/ExcessRules", "<init>", "(Lcom/example/payspread/payspread/model/ExcessRules$ExcessRule;ZZ)V"⟩ : MethodName) (head1 (Jvm.Cond.code (⟨"com/example/payspread/payspread/model/ExcessRules", "<init>", "(Lcom/example/payspread/payspread/model/ExcessRules$ExcessRule;ZZ)V"⟩ : MethodName) prog_34_method_2_code 4 none :: ws) ({ frames := 1, cells := 0, slots := 0, locals := 12 } : Room)) (fun a U => a = #[(.ref a1), (.ref a2), (.int p3), (.int p4)] ∧ Z.Warmed39 U.vm ∧ U.heap = h0) (fun _ _ _ _ _ => True) (fun _ U o U' => ∃ v L, o = .returned v ∧ Q_rm2 Z a1 a2 p3 p4 h0 n0 v U'.heap L ∧ FrameEnd U o U' L ({ frames := 1, cells := 0, slots := 0, locals := 12 } : Room).cells ({ frames := 1, cells := 0, slots := 0, locals := 12 } : Room).slots) := by
  refine MetFree.of_bodySF (plainFor_of_name pn_rm2) hisR ?_
  intro p e s m args below meth c s₁ Bd hml0 hP hK
  obtain ⟨rfl, hZ, hh⟩ := hP
  have hx := Bd.exec
  have hby := Bd.bytes
  have hml : c.maxLocals = 4 := hml0
  have hown : s.vm.findClass "com/example/payspread/payspread/model/ExcessRules" = some m.cls := findClass_of_methodNamed Bd.named
  have hnm := (name_of_methodNamed Bd.named Bd.method).1
  have X0 : Stand p l e ({ frames := 1, cells := 0, slots := 0, locals := 12 } : Room) s m #[(.ref a1), (.ref a2), (.int p3), (.int p4)] below meth c s₁ [] 0 0 := Stand.of_body Bd
  have e0 : s₁.heap = h0 := by rw [← hh, Bd.state]; rfl
  have N0 := Fr.nil n0
  have pre0 : ∀ t, Steps p.tables e below (s₁.setTop (mkF m 0 #[.val (.ref a1), .val (.ref a2), .val (.int p3), .val (.int p4)] [])) t → Steps p.tables e below (s₁.setTop (entryFrame m #[(.ref a1), (.ref a2), (.int p3), (.int p4)] 4)) t := fun t k => castTop (ef_rm2 m a1 a2 p3 p4) k
  obtain ⟨T1, X1, e1, st1⟩ := initO X0 hx hZ hown (hw _ (List.mem_of_getElem? (i := 13) rfl)) (hw _ (List.mem_of_getElem? (i := 14) rfl)) (hw _ (List.mem_of_getElem? (i := 15) rfl)) e0 (g := (mkF m 1 #[.val (.ref a1), .val (.ref a2), .val (.int p3), .val (.int p4)] [(.ref a1)])) rfl (by rw [hml]; rfl) rfl (hb hby d2_1) (by decide) (W := 0) (by show 2 * 0 + _ ≤ _; exact Nat.le_of_eq rfl) (by decide)
  obtain ⟨T2, h2, X2, e2, W2, st2⟩ := putF X1 hx hZ hown (host := "") (Or.inl (hw _ (List.mem_of_getElem? (i := 16) rfl))) Via.refl e1 F_1 E_a1 (Or.inr ⟨(hw _ (List.mem_of_getElem? (i := 17) rfl)), rfl, hnm⟩) (hw _ (List.mem_of_getElem? (i := 1) rfl)) (ty := (.object "com/example/payspread/payspread/model/ExcessRules$ExcessRule")) (by decide) rfl rfl (g := (mkF m 6 #[.val (.ref a1), .val (.ref a2), .val (.int p3), .val (.int p4)] [(.ref a2), (.ref a1)])) rfl rfl (hb hby d2_6)
  have Fw2 : Fld Z h2 a1 "com/example/payspread/payspread/model/ExcessRules" "excessRule" "Lcom/example/payspread/payspread/model/ExcessRules$ExcessRule;" (.ref a2) := F_1.same W2
  have K2 : Keep h0 h2 [a1] := ((Keep.refl h0 [a1])).wr W2 (Or.inl (List.mem_of_getElem? (i := 0) rfl))
  have N2 := Fr.snoc X2 N0 g_a1
  have f4 := (Exa.wr W2 E_a1)
  have f5 := (Fld.other W2 F_2 (Or.inr (slot_ne (Or.inr (hw _ (List.mem_of_getElem? (i := 19) rfl))) (Or.inr (hw _ (List.mem_of_getElem? (i := 17) rfl))) (by decide) (t := .boolean) (t' := (.object "com/example/payspread/payspread/model/ExcessRules$ExcessRule")) (by decide) (by decide))))
  obtain ⟨T3, h3, X3, e3, W3, st3⟩ := putFN X2 hx hZ hown (hw _ (List.mem_of_getElem? (i := 18) rfl)) Via.refl e2 f5 f4 (Or.inr ⟨(hw _ (List.mem_of_getElem? (i := 19) rfl)), rfl, hnm⟩) (hw _ (List.mem_of_getElem? (i := 1) rfl)) (ty := .boolean) (v' := (.int (nar .boolean p3))) (by decide) rfl (fits_nar_bool p3) (g := (mkF m 11 #[.val (.ref a1), .val (.ref a2), .val (.int p3), .val (.int p4)] [(.int p3), (.ref a1)])) rfl rfl (hb hby d2_11)
  have Fw3 : Fld Z h3 a1 "com/example/payspread/payspread/model/ExcessRules" "wholeInstallmentsFirst" "Z" (.int (nar .boolean p3)) := f5.same W3
  have K3 : Keep h0 h3 [a1] := (K2).wr W3 (Or.inl (List.mem_of_getElem? (i := 0) rfl))
  have N3 := Fr.snoc X3 N2 g_a1
  have f7 := (Exa.wr W3 f4)
  have f8 := (Fld.other W3 (Fld.other W2 F_3 (Or.inr (slot_ne (Or.inr (hw _ (List.mem_of_getElem? (i := 21) rfl))) (Or.inr (hw _ (List.mem_of_getElem? (i := 17) rfl))) (by decide) (t := .boolean) (t' := (.object "com/example/payspread/payspread/model/ExcessRules$ExcessRule")) (by decide) (by decide)))) (Or.inr (slot_ne (Or.inr (hw _ (List.mem_of_getElem? (i := 21) rfl))) (Or.inr (hw _ (List.mem_of_getElem? (i := 19) rfl))) (by decide) (t := .boolean) (t' := .boolean) (by decide) (by decide))))
  obtain ⟨T6, h6, X6, e6, W6, st6⟩ := putFN X3 hx hZ hown (hw _ (List.mem_of_getElem? (i := 20) rfl)) Via.refl e3 f8 f7 (Or.inr ⟨(hw _ (List.mem_of_getElem? (i := 21) rfl)), rfl, hnm⟩) (hw _ (List.mem_of_getElem? (i := 1) rfl)) (ty := .boolean) (v' := (.int (nar .boolean p4))) (by decide) rfl (fits_nar_bool p4) (g := (mkF m 16 #[.val (.ref a1), .val (.ref a2), .val (.int p3), .val (.int p4)] [(.int p4), (.ref a1)])) rfl rfl (hb hby d2_16)
  have Fw6 : Fld Z h6 a1 "com/example/payspread/payspread/model/ExcessRules" "autoPayoff" "Z" (.int (nar .boolean p4)) := f8.same W6
  have K6 : Keep h0 h6 [a1] := (K3).wr W6 (Or.inl (List.mem_of_getElem? (i := 0) rfl))
  have N6 := Fr.snoc X6 N3 g_a1
  have f9 := (Exa.wr W6 f7)
  have f10 := (Fld.other W6 (Fld.other W3 Fw2 (Or.inr (slot_ne (Or.inr (hw _ (List.mem_of_getElem? (i := 17) rfl))) (Or.inr (hw _ (List.mem_of_getElem? (i := 19) rfl))) (by decide) (t := (.object "com/example/payspread/payspread/model/ExcessRules$ExcessRule")) (t' := .boolean) (by decide) (by decide)))) (Or.inr (slot_ne (Or.inr (hw _ (List.mem_of_getElem? (i := 17) rfl))) (Or.inr (hw _ (List.mem_of_getElem? (i := 21) rfl))) (by decide) (t := (.object "com/example/payspread/payspread/model/ExcessRules$ExcessRule")) (t' := .boolean) (by decide) (by decide))))
  have f11 := (Fld.other W6 Fw3 (Or.inr (slot_ne (Or.inr (hw _ (List.mem_of_getElem? (i := 19) rfl))) (Or.inr (hw _ (List.mem_of_getElem? (i := 21) rfl))) (by decide) (t := .boolean) (t' := .boolean) (by decide) (by decide))))
  obtain ⟨fs, hr, hrun, hended, hW, hsame⟩ := X6.leave (v := none) (fun _ => rfl)
  refine ⟨_, _, pre0 _ ?_, hrun, hended, _, _, rfl, ?_, ⟨_, rfl⟩, hW, hsame.mono (by decide) (by decide)⟩
  · show Steps p.tables e below (s₁.setTop (mkF m 0 #[.val (.ref a1), .val (.ref a2), .val (.int p3), .val (.int p4)] [])) _
    refine XS.aloadN X0.here hx rfl (hb hby d2_0) rfl rfl ?_
    show Steps p.tables e below (s₁.setTop (mkF m 1 #[.val (.ref a1), .val (.ref a2), .val (.int p3), .val (.int p4)] [(.ref a1)])) _
    refine st1 _ ?_
    show Steps p.tables e below (T1.setTop (mkF m 4 #[.val (.ref a1), .val (.ref a2), .val (.int p3), .val (.int p4)] [])) _
    refine XS.aloadN X1.here hx rfl (hb hby d2_4) rfl rfl ?_
    show Steps p.tables e below (T1.setTop (mkF m 5 #[.val (.ref a1), .val (.ref a2), .val (.int p3), .val (.int p4)] [(.ref a1)])) _
    refine XS.aloadN X1.here hx rfl (hb hby d2_5) rfl rfl ?_
    show Steps p.tables e below (T1.setTop (mkF m 6 #[.val (.ref a1), .val (.ref a2), .val (.int p3), .val (.int p4)] [(.ref a2), (.ref a1)])) _
    refine st2 _ ?_
    show Steps p.tables e below (T2.setTop (mkF m 9 #[.val (.ref a1), .val (.ref a2), .val (.int p3), .val (.int p4)] [])) _
    refine XS.aloadN X2.here hx rfl (hb hby d2_9) rfl rfl ?_
    show Steps p.tables e below (T2.setTop (mkF m 10 #[.val (.ref a1), .val (.ref a2), .val (.int p3), .val (.int p4)] [(.ref a1)])) _
    refine XS.iloadN X2.here hx rfl (hb hby d2_10) rfl ?_
    show Steps p.tables e below (T2.setTop (mkF m 11 #[.val (.ref a1), .val (.ref a2), .val (.int p3), .val (.int p4)] [(.int p3), (.ref a1)])) _
    refine st3 _ ?_
    show Steps p.tables e below (T3.setTop (mkF m 14 #[.val (.ref a1), .val (.ref a2), .val (.int p3), .val (.int p4)] [])) _
    refine XS.aloadN X3.here hx rfl (hb hby d2_14) rfl rfl ?_
    show Steps p.tables e below (T3.setTop (mkF m 15 #[.val (.ref a1), .val (.ref a2), .val (.int p3), .val (.int p4)] [(.ref a1)])) _
    refine XS.iloadN X3.here hx rfl (hb hby d2_15) rfl ?_
    show Steps p.tables e below (T3.setTop (mkF m 16 #[.val (.ref a1), .val (.ref a2), .val (.int p3), .val (.int p4)] [(.int p4), (.ref a1)])) _
    refine st6 _ ?_
    show Steps p.tables e below (T6.setTop (mkF m 19 #[.val (.ref a1), .val (.ref a2), .val (.int p3), .val (.int p4)] [])) _
    exact X6.returnOut hx Bd.returns (hb hby d2_19) hr
  · show Q_rm2 Z a1 a2 p3 p4 h0 n0 _ T6.heap _
    rw [e6]
    exact ⟨rfl, N6, K6, f9, f10, f11, Fw6⟩
theorem d7_0 : decode jdk_18_method_1_code 0 = .ok (.aload_n 0, 1) := by decide +kernel
theorem d7_1 : decode jdk_18_method_1_code 1 = .ok (.invokespecial 1, 3) := by decide +kernel
theorem d7_4 : decode jdk_18_method_1_code 4 = .ok (.return_, 1) := by decide +kernel
theorem pn_rm7 : plainName "java/lang/Number" = true := by first | (simp [plainName, overriddenIn]; done) | decide +kernel
theorem ef_rm7 (m : MethodId) (a1 : Addr) : entryFrame m #[(.ref a1)] 1 = mkF m 0 #[.val (.ref a1)] [] := by first | (simp [entryFrame, mkF, argsToLocals, Value.category]; done) | rfl
def Q_rm7 (Z : State) (a1 : Addr) (h0 : Heap) (n0 : Nat) (v : Option Value) (h : Heap) (L : List Loc) : Prop := v = none ∧ Fr n0 L ∧ h = h0
set_option maxRecDepth 65536 in
set_option maxHeartbeats 40000000 in
theorem rm7 (l : Launch) (Z : State) (a0 : Array Value) (hw : ∀ d ∈ tables_1, d.before a0 Z = true) (ws : List Jvm.Cond) (a1 : Addr) (h0 : Heap) (n0 : Nat) (Z0 : n0 ≤ h0.size) :
    MetFree l (⟨"java/lang/Number", "<init>", "()V"⟩ : MethodName) (head1 (Jvm.Cond.code (⟨"java/lang/Number", "<init>", "()V"⟩ : MethodName) jdk_18_method_1_code 1 none :: ws) ({ frames := 1, cells := 0, slots := 0, locals := 12 } : Room)) (fun a U => a = #[(.ref a1)] ∧ Z.Warmed39 U.vm ∧ U.heap = h0) (fun _ _ _ _ _ => True) (fun _ U o U' => ∃ v L, o = .returned v ∧ Q_rm7 Z a1 h0 n0 v U'.heap L ∧ FrameEnd U o U' L ({ frames := 1, cells := 0, slots := 0, locals := 12 } : Room).cells ({ frames := 1, cells := 0, slots := 0, locals := 12 } : Room).slots) := by
  refine MetFree.of_bodySF (plainFor_of_name pn_rm7) hisR ?_
  intro p e s m args below meth c s₁ Bd hml0 hP hK
  obtain ⟨rfl, hZ, hh⟩ := hP
  have hx := Bd.exec
  have hby := Bd.bytes
  have hml : c.maxLocals = 1 := hml0
  have hown : s.vm.findClass "java/lang/Number" = some m.cls := findClass_of_methodNamed Bd.named
  have hnm := (name_of_methodNamed Bd.named Bd.method).1
  have X0 : Stand p l e ({ frames := 1, cells := 0, slots := 0, locals := 12 } : Room) s m #[(.ref a1)] below meth c s₁ [] 0 0 := Stand.of_body Bd
  have e0 : s₁.heap = h0 := by rw [← hh, Bd.state]; rfl
  have N0 := Fr.nil n0
  have pre0 : ∀ t, Steps p.tables e below (s₁.setTop (mkF m 0 #[.val (.ref a1)] [])) t → Steps p.tables e below (s₁.setTop (entryFrame m #[(.ref a1)] 1)) t := fun t k => castTop (ef_rm7 m a1) k
  obtain ⟨T1, X1, e1, st1⟩ := initO X0 hx hZ hown (hw _ (List.mem_of_getElem? (i := 53) rfl)) (hw _ (List.mem_of_getElem? (i := 14) rfl)) (hw _ (List.mem_of_getElem? (i := 15) rfl)) e0 (g := (mkF m 1 #[.val (.ref a1)] [(.ref a1)])) rfl (by rw [hml]; rfl) rfl (hb hby d7_1) (by decide) (W := 0) (by show 2 * 0 + _ ≤ _; exact Nat.le_of_eq rfl) (by decide)
  obtain ⟨fs, hr, hrun, hended, hW, hsame⟩ := X1.leave (v := none) (fun _ => rfl)
  refine ⟨_, _, pre0 _ ?_, hrun, hended, _, _, rfl, ?_, ⟨_, rfl⟩, hW, hsame.mono (by decide) (by decide)⟩
  · show Steps p.tables e below (s₁.setTop (mkF m 0 #[.val (.ref a1)] [])) _
    refine XS.aloadN X0.here hx rfl (hb hby d7_0) rfl rfl ?_
    show Steps p.tables e below (s₁.setTop (mkF m 1 #[.val (.ref a1)] [(.ref a1)])) _
    refine st1 _ ?_
    show Steps p.tables e below (T1.setTop (mkF m 4 #[.val (.ref a1)] [])) _
    exact X1.returnOut hx Bd.returns (hb hby d7_4) hr
  · show Q_rm7 Z a1 h0 n0 _ T1.heap _
    rw [e1]
    exact ⟨rfl, N0, rfl⟩
theorem d6_0 : decode jdk_33_method_23_code 0 = .ok (.aload_n 0, 1) := by decide +kernel
theorem d6_1 : decode jdk_33_method_23_code 1 = .ok (.invokespecial 202, 3) := by decide +kernel
theorem d6_4 : decode jdk_33_method_23_code 4 = .ok (.aload_n 0, 1) := by decide +kernel
theorem d6_5 : decode jdk_33_method_23_code 5 = .ok (.iload_n 1, 1) := by decide +kernel
theorem d6_6 : decode jdk_33_method_23_code 6 = .ok (.putfield 205, 3) := by decide +kernel
theorem d6_9 : decode jdk_33_method_23_code 9 = .ok (.return_, 1) := by decide +kernel
theorem pn_rm6 : plainName "java/lang/Integer" = true := by first | (simp [plainName, overriddenIn]; done) | decide +kernel
theorem pd_rm6_0 : parseMethodDescriptor "()V" = some ⟨[], none⟩ := by decide +kernel
theorem ef_rm6 (m : MethodId) (a1 : Addr) (p2 : Int32) : entryFrame m #[(.ref a1), (.int p2)] 2 = mkF m 0 #[.val (.ref a1), .val (.int p2)] [] := by first | (simp [entryFrame, mkF, argsToLocals, Value.category]; done) | rfl
def Q_rm6 (Z : State) (a1 : Addr) (p2 : Int32) (h0 : Heap) (n0 : Nat) (v : Option Value) (h : Heap) (L : List Loc) : Prop := v = none ∧ Fr n0 L ∧ Keep h0 h [a1] ∧ Exa Z h a1 "java/lang/Integer"
set_option maxRecDepth 65536 in
set_option maxHeartbeats 40000000 in
theorem rm6 (l : Launch) (Z : State) (a0 : Array Value) (hw : ∀ d ∈ tables_1, d.before a0 Z = true) (ws : List Jvm.Cond) (a1 : Addr) (p2 : Int32) (h0 : Heap) (n0 : Nat) (Z0 : n0 ≤ h0.size) (E_a1 : Exa Z h0 a1 "java/lang/Integer") (F_1 : Fld Z h0 a1 "java/lang/Integer" "value" "I" (.int (0 : Int32))) (g_a1 : n0 ≤ a1) :
    MetFree l (⟨"java/lang/Integer", "<init>", "(I)V"⟩ : MethodName) (head1 (Jvm.Cond.code (⟨"java/lang/Integer", "<init>", "(I)V"⟩ : MethodName) jdk_33_method_23_code 2 none :: ws) ({ frames := 2, cells := 0, slots := 0, locals := 24 } : Room)) (fun a U => a = #[(.ref a1), (.int p2)] ∧ Z.Warmed39 U.vm ∧ U.heap = h0) (fun _ _ _ _ _ => True) (fun _ U o U' => ∃ v L, o = .returned v ∧ Q_rm6 Z a1 p2 h0 n0 v U'.heap L ∧ FrameEnd U o U' L ({ frames := 2, cells := 0, slots := 0, locals := 24 } : Room).cells ({ frames := 2, cells := 0, slots := 0, locals := 24 } : Room).slots) := by
  refine MetFree.of_bodySF (plainFor_of_name pn_rm6) hisR ?_
  intro p e s m args below meth c s₁ Bd hml0 hP hK
  obtain ⟨rfl, hZ, hh⟩ := hP
  have hx := Bd.exec
  have hby := Bd.bytes
  have hml : c.maxLocals = 2 := hml0
  have hown : s.vm.findClass "java/lang/Integer" = some m.cls := findClass_of_methodNamed Bd.named
  have hnm := (name_of_methodNamed Bd.named Bd.method).1
  have X0 : Stand p l e ({ frames := 2, cells := 0, slots := 0, locals := 24 } : Room) s m #[(.ref a1), (.int p2)] below meth c s₁ [] 0 0 := Stand.of_body Bd
  have e0 : s₁.heap = h0 := by rw [← hh, Bd.state]; rfl
  have N0 := Fr.nil n0
  have pre0 : ∀ t, Steps p.tables e below (s₁.setTop (mkF m 0 #[.val (.ref a1), .val (.int p2)] [])) t → Steps p.tables e below (s₁.setTop (entryFrame m #[(.ref a1), (.int p2)] 2)) t := fun t k => castTop (ef_rm6 m a1 p2) k
  obtain ⟨_, _, ⟨T1, L1, k1, n1⟩, -, X1, ⟨Lc1, hQ1, l1, y1, z1⟩, st1⟩ := X0.specialBack hx (y := (⟨"java/lang/Number", "<init>", "()V"⟩ : MethodName)) rfl hown (mvT hZ (hw _ (List.mem_of_getElem? (i := 47) rfl))) (mvT hZ (hw _ (List.mem_of_getElem? (i := 48) rfl))) (mvT hZ (hw _ (List.mem_of_getElem? (i := 52) rfl))) (by decide) (backOf (W := 0) (rm7 l Z a0 hw [] a1 h0 n0 Z0) hZ (hw _ (List.mem_of_getElem? (i := 52) rfl)) (hw _ (List.mem_of_getElem? (i := 51) rfl)) (by decide) (by decide)) (g := (mkF m 1 #[.val (.ref a1), .val (.int p2)] [(.ref a1)])) rfl (by rw [hml]; rfl) (Steps.refl _) (a := a1) (argsL := []) (rest := []) (lenOf pd_rm6_0 rfl) rfl (by show 2 * 0 + _ ≤ _; exact Nat.le_of_eq rfl) (hb hby d6_1) (fun _ _ => ⟨rfl, e0, (by decide : 0 + 0 ≤ _), (by decide : 0 + 0 ≤ _)⟩)
  dsimp only [Pt.U, Pt.locs, Pt.cells, Pt.slots] at X1 l1 y1 z1 st1 hQ1
  subst l1 y1 z1
  obtain ⟨rfl, N1q, e1⟩ := hQ1
  have N1 := Fr.app N0 N1q
  obtain ⟨T2, h2, X2, e2, W2, st2⟩ := putF X1 hx hZ hown (host := "") (Or.inl (hw _ (List.mem_of_getElem? (i := 54) rfl))) Via.refl e1 F_1 E_a1 (Or.inr ⟨(hw _ (List.mem_of_getElem? (i := 55) rfl)), rfl, hnm⟩) (hw _ (List.mem_of_getElem? (i := 42) rfl)) (ty := .int) (by decide) rfl rfl (g := (mkF m 6 #[.val (.ref a1), .val (.int p2)] [(.int p2), (.ref a1)])) rfl rfl (hb hby d6_6)
  have Fw2 : Fld Z h2 a1 "java/lang/Integer" "value" "I" (.int p2) := F_1.same W2
  have K2 : Keep h0 h2 [a1] := ((Keep.refl h0 [a1])).wr W2 (Or.inl (List.mem_of_getElem? (i := 0) rfl))
  have N2 := Fr.snoc X2 N1 g_a1
  have f3 := (Exa.wr W2 E_a1)
  obtain ⟨fs, hr, hrun, hended, hW, hsame⟩ := X2.leave (v := none) (fun _ => rfl)
  refine ⟨_, _, pre0 _ ?_, hrun, hended, _, _, rfl, ?_, ⟨_, rfl⟩, hW, hsame.mono (by decide) (by decide)⟩
  · show Steps p.tables e below (s₁.setTop (mkF m 0 #[.val (.ref a1), .val (.int p2)] [])) _
    refine XS.aloadN X0.here hx rfl (hb hby d6_0) rfl rfl ?_
    show Steps p.tables e below (s₁.setTop (mkF m 1 #[.val (.ref a1), .val (.int p2)] [(.ref a1)])) _
    refine st1.trans ?_
    show Steps p.tables e below (T1.setTop (mkF m 4 #[.val (.ref a1), .val (.int p2)] [])) _
    refine XS.aloadN X1.here hx rfl (hb hby d6_4) rfl rfl ?_
    show Steps p.tables e below (T1.setTop (mkF m 5 #[.val (.ref a1), .val (.int p2)] [(.ref a1)])) _
    refine XS.iloadN X1.here hx rfl (hb hby d6_5) rfl ?_
    show Steps p.tables e below (T1.setTop (mkF m 6 #[.val (.ref a1), .val (.int p2)] [(.int p2), (.ref a1)])) _
    refine st2 _ ?_
    show Steps p.tables e below (T2.setTop (mkF m 9 #[.val (.ref a1), .val (.int p2)] [])) _
    exact X2.returnOut hx Bd.returns (hb hby d6_9) hr
  · show Q_rm6 Z a1 p2 h0 n0 _ T2.heap _
    rw [e2]
    exact ⟨rfl, N2, K2, f3⟩
theorem own_cidx {p : Int32} (h1 : ¬ p < (-128 : Int32)) (h2 : ¬ (127 : Int32) < p) : ¬ (p + (128 : Int32)) < 0 ∧ (p + (128 : Int32)) < 256 := by
  rw [Int32.lt_iff_toInt_lt] at h1 h2
  have e1 : (-128 : Int32).toInt = -128 := rfl
  have e2 : (127 : Int32).toInt = 127 := rfl
  have e3 : (128 : Int32).toInt = 128 := rfl
  have e4 : (256 : Int32).toInt = 256 := rfl
  have e5 : (0 : Int32).toInt = 0 := rfl
  have e6 : (p + (128 : Int32)).toInt = p.toInt + (128 : Int32).toInt := Jvm.Kit.i32_add (by omega) (by omega)
  rw [Int32.lt_iff_toInt_lt, Int32.lt_iff_toInt_lt]
  omega
theorem d4_0 : decode jdk_33_method_22_code 0 = .ok (.iload_n 0, 1) := by decide +kernel
theorem d4_1 : decode jdk_33_method_22_code 1 = .ok (.bipush (-128), 2) := by decide +kernel
theorem d4_3 : decode jdk_33_method_22_code 3 = .ok (.if_icmp .lt 20, 3) := by decide +kernel
theorem d4_6 : decode jdk_33_method_22_code 6 = .ok (.iload_n 0, 1) := by decide +kernel
theorem d4_7 : decode jdk_33_method_22_code 7 = .ok (.getstatic 191, 3) := by decide +kernel
theorem d4_10 : decode jdk_33_method_22_code 10 = .ok (.if_icmp .gt 13, 3) := by decide +kernel
theorem d4_13 : decode jdk_33_method_22_code 13 = .ok (.getstatic 195, 3) := by decide +kernel
theorem d4_16 : decode jdk_33_method_22_code 16 = .ok (.iload_n 0, 1) := by decide +kernel
theorem d4_17 : decode jdk_33_method_22_code 17 = .ok (.sipush 128, 3) := by decide +kernel
theorem d4_20 : decode jdk_33_method_22_code 20 = .ok (.iadd, 1) := by decide +kernel
theorem d4_21 : decode jdk_33_method_22_code 21 = .ok (.aaload, 1) := by decide +kernel
theorem d4_22 : decode jdk_33_method_22_code 22 = .ok (.areturn, 1) := by decide +kernel
theorem d4_23 : decode jdk_33_method_22_code 23 = .ok (.new 1, 3) := by decide +kernel
theorem d4_26 : decode jdk_33_method_22_code 26 = .ok (.dup, 1) := by decide +kernel
theorem d4_27 : decode jdk_33_method_22_code 27 = .ok (.iload_n 0, 1) := by decide +kernel
theorem d4_28 : decode jdk_33_method_22_code 28 = .ok (.invokespecial 199, 3) := by decide +kernel
theorem d4_31 : decode jdk_33_method_22_code 31 = .ok (.areturn, 1) := by decide +kernel
theorem pn_rm4 : plainName "java/lang/Integer" = true := by first | (simp [plainName, overriddenIn]; done) | decide +kernel
theorem pd_rm4_0 : parseMethodDescriptor "(I)V" = some ⟨[.int], none⟩ := by decide +kernel
theorem ef_rm4 (m : MethodId) (p1 : Int32) : entryFrame m #[(.int p1)] 1 = mkF m 0 #[.val (.int p1)] [] := by first | (simp [entryFrame, mkF, argsToLocals, Value.category]; done) | rfl
def Q_rm4 (Z : State) (p1 : Int32) (wc : Addr) (cl : Cell) (h0 : Heap) (n0 : Nat) (v : Option Value) (h : Heap) (L : List Loc) : Prop := ∃ r : Addr, v = some (.ref r) ∧ Fr n0 L ∧ Ext h0 h ∧ Exa Z h r "java/lang/Integer"
set_option maxRecDepth 65536 in
set_option maxHeartbeats 40000000 in
theorem rm4 (l : Launch) (Z : State) (a0 : Array Value) (hw : ∀ d ∈ tables_1, d.before a0 Z = true) (ws : List Jvm.Cond) (p1 : Int32) (wc : Addr) (cl : Cell) (h0 : Heap) (n0 : Nat) (Z0 : n0 ≤ h0.size) (S_high : Sta Z h0 "java/lang/Integer$IntegerCache" "high" "I" (.int (127 : Int32))) (S_cache : Sta Z h0 "java/lang/Integer$IntegerCache" "cache" "[Ljava/lang/Integer;" (.ref wc)) (Ar : Arr Z h0 wc cl (.object "java/lang/Integer")) (hS : cl.slots.size = (256 : Int32).toNatClampNeg) (hcache : ∀ j : Int32, ¬ j < 0 → j < 256 → ∃ a : Addr, cl.slots[j.toNatClampNeg]? = some (.ref a) ∧ Exa Z h0 a "java/lang/Integer") :
    MetFree l (⟨"java/lang/Integer", "valueOf", "(I)Ljava/lang/Integer;"⟩ : MethodName) (head1 (Jvm.Cond.code (⟨"java/lang/Integer", "valueOf", "(I)Ljava/lang/Integer;"⟩ : MethodName) jdk_33_method_22_code 1 (some (.object "java/lang/Integer")) :: ws) ({ frames := 3, cells := 1, slots := 1, locals := 38 } : Room)) (fun a U => a = #[(.int p1)] ∧ Z.Warmed39 U.vm ∧ U.heap = h0) (fun _ _ _ _ _ => True) (fun _ U o U' => ∃ v L, o = .returned v ∧ Q_rm4 Z p1 wc cl h0 n0 v U'.heap L ∧ FrameEnd U o U' L ({ frames := 3, cells := 1, slots := 1, locals := 38 } : Room).cells ({ frames := 3, cells := 1, slots := 1, locals := 38 } : Room).slots) := by
  refine MetFree.of_bodySF (plainFor_of_name pn_rm4) hisR ?_
  intro p e s m args below meth c s₁ Bd hml0 hP hK
  obtain ⟨rfl, hZ, hh⟩ := hP
  have hx := Bd.exec
  have hby := Bd.bytes
  have hml : c.maxLocals = 1 := hml0
  have hown : s.vm.findClass "java/lang/Integer" = some m.cls := findClass_of_methodNamed Bd.named
  have hnm := (name_of_methodNamed Bd.named Bd.method).1
  have X0 : Stand p l e ({ frames := 3, cells := 1, slots := 1, locals := 38 } : Room) s m #[(.int p1)] below meth c s₁ [] 0 0 := Stand.of_body Bd
  have e0 : s₁.heap = h0 := by rw [← hh, Bd.state]; rfl
  have N0 := Fr.nil n0
  have pre0 : ∀ t, Steps p.tables e below (s₁.setTop (mkF m 0 #[.val (.int p1)] [])) t → Steps p.tables e below (s₁.setTop (entryFrame m #[(.int p1)] 1)) t := fun t k => castTop (ef_rm4 m p1) k
  have pre1 : ∀ t, Steps p.tables e below (s₁.setTop (mkF m 3 #[.val (.int p1)] [(.int (-128 : Int32)), (.int p1)])) t → Steps p.tables e below (s₁.setTop (entryFrame m #[(.int p1)] 1)) t := fun t k => pre0 t (by
      show Steps p.tables e below (s₁.setTop (mkF m 0 #[.val (.int p1)] [])) _
      refine XS.iloadN X0.here hx rfl (hb hby d4_0) rfl ?_
      show Steps p.tables e below (s₁.setTop (mkF m 1 #[.val (.int p1)] [(.int p1)])) _
      refine XS.bipush X0.here hx rfl (hb hby d4_1) ?_
      exact k)
  by_cases hc2 : p1 < (-128 : Int32)
  · obtain ⟨T3, h3, X3, e3, E3, A3, D3, -, st3⟩ := newO X0 hx hZ hown (hw _ (List.mem_of_getElem? (i := 41) rfl)) (hw _ (List.mem_of_getElem? (i := 42) rfl)) (hw _ (List.mem_of_getElem? (i := 26) rfl)) e0 (g := (mkF m 23 #[.val (.int p1)] [])) rfl (hb hby d4_23) (by decide) (by decide)
    obtain ⟨b3, g3⟩ : ∃ z, z = h0.size := ⟨_, rfl⟩
    rw [← g3] at A3 D3 st3
    have g_b3 : n0 ≤ b3 := Nat.le_trans Z0 (Nat.le_of_eq g3.symm)
    have sz_b3 : h0.size ≤ b3 := Nat.le_trans ((Keep.refl h0 [])).1 (Nat.le_of_eq g3.symm)
    have K3 : Keep h0 h3 [] := ((Keep.refl h0 [])).ext E3
    have F3_value : Fld Z h3 b3 "java/lang/Integer" "value" "I" (.int (0 : Int32)) := D3 (Or.inr (hw _ (List.mem_of_getElem? (i := 55) rfl))) (ty := .int) (by decide)
    obtain ⟨_, _, ⟨T4, L4, k4, n4⟩, -, X4, ⟨Lc4, hQ4, l4, y4, z4⟩, st4⟩ := X3.specialBack hx (y := (⟨"java/lang/Integer", "<init>", "(I)V"⟩ : MethodName)) rfl hown (mvT hZ (hw _ (List.mem_of_getElem? (i := 43) rfl))) (mvT hZ (hw _ (List.mem_of_getElem? (i := 44) rfl))) (mvT hZ (hw _ (List.mem_of_getElem? (i := 46) rfl))) (by decide) (backOf (W := 1) (rm6 l Z a0 hw [] b3 p1 h3 n0 (Nat.le_trans Z0 K3.1) A3 F3_value g_b3) hZ (hw _ (List.mem_of_getElem? (i := 46) rfl)) (hw _ (List.mem_of_getElem? (i := 26) rfl)) (by decide) (by decide)) (g := (mkF m 28 #[.val (.int p1)] [(.int p1), (.ref b3), (.ref b3)])) rfl (by rw [hml]; rfl) (Steps.refl _) (a := b3) (argsL := [(.int p1)]) (rest := [(.ref b3)]) (lenOf pd_rm4_0 rfl) rfl (by show 2 * 0 + _ ≤ _; exact Nat.le_of_eq rfl) (hb hby d4_28) (fun _ _ => ⟨rfl, e3, (by decide : 1 + 0 ≤ _), (by decide : 1 + 0 ≤ _)⟩)
    dsimp only [Pt.U, Pt.locs, Pt.cells, Pt.slots] at X4 l4 y4 z4 st4 hQ4
    subst l4 y4 z4
    obtain ⟨rfl, N4q, K4q, A4q⟩ := hQ4
    have N4 := Fr.app N0 N4q
    have K4 : Keep h0 T4.heap [] := (K3).trans K4q (allS (Or.inr sz_b3) all0)
    obtain ⟨fs, hr, hrun, hended, hW, hsame⟩ := X4.leave (v := some (.ref b3)) (fun h => by rw [Bd.returns] at h; cases h)
    refine ⟨_, _, pre1 _ ?_, hrun, hended, _, _, rfl, ?_, ⟨_, rfl⟩, hW, hsame.mono (by decide) (by decide)⟩
    · show Steps p.tables e below (s₁.setTop (mkF m 3 #[.val (.int p1)] [(.int (-128 : Int32)), (.int p1)])) _
      refine XS.icmpYes X0.here hx rfl (pc0 := 3) (pc' := 23) rfl (hb hby d4_3) rfl (tlt hc2).1 (by decide) (by decide) ?_
      show Steps p.tables e below (s₁.setTop (mkF m 23 #[.val (.int p1)] [])) _
      refine st3 _ ?_
      show Steps p.tables e below (T3.setTop (mkF m 26 #[.val (.int p1)] [(.ref b3)])) _
      refine XS.dup X3.here hx rfl (hb hby d4_26) rfl rfl ?_
      show Steps p.tables e below (T3.setTop (mkF m 27 #[.val (.int p1)] [(.ref b3), (.ref b3)])) _
      refine XS.iloadN X3.here hx rfl (hb hby d4_27) rfl ?_
      show Steps p.tables e below (T3.setTop (mkF m 28 #[.val (.int p1)] [(.int p1), (.ref b3), (.ref b3)])) _
      refine st4.trans ?_
      show Steps p.tables e below (T4.setTop (mkF m 31 #[.val (.int p1)] [(.ref b3)])) _
      jvm_step X4.here [X4.here.top, hx, (hb hby d4_31), X4.method', Bd.returns, Value.isRef, FieldType.isReference]
      first | (intro acts; rw [hr _ acts rfl rfl rfl]) | rw [hr _ _ rfl rfl rfl]
      exact Steps.refl _
    · show Q_rm4 Z p1 wc cl h0 n0 _ T4.heap _
      exact ⟨b3, rfl, N4, own_keep_ext K4, A4q⟩
  · obtain ⟨T5, X5, e5, st5⟩ := getS2 X0 hx hZ hown (host := "") (Or.inl (hw _ (List.mem_of_getElem? (i := 28) rfl))) Via.refl e0 S_high (g := (mkF m 7 #[.val (.int p1)] [(.int p1)])) rfl (hb hby d4_7)
    have pre6 : ∀ t, Steps p.tables e below (T5.setTop (mkF m 10 #[.val (.int p1)] [(.int (127 : Int32)), (.int p1)])) t → Steps p.tables e below (s₁.setTop (entryFrame m #[(.int p1)] 1)) t := fun t k => pre1 t (by
        show Steps p.tables e below (s₁.setTop (mkF m 3 #[.val (.int p1)] [(.int (-128 : Int32)), (.int p1)])) _
        refine XS.icmpNo X0.here hx rfl (hb hby d4_3) rfl (flt hc2).1 ?_
        show Steps p.tables e below (s₁.setTop (mkF m 6 #[.val (.int p1)] [])) _
        refine XS.iloadN X0.here hx rfl (hb hby d4_6) rfl ?_
        show Steps p.tables e below (s₁.setTop (mkF m 7 #[.val (.int p1)] [(.int p1)])) _
        refine st5 _ ?_
        exact k)
    by_cases hc7 : (127 : Int32) < p1
    · obtain ⟨T8, h8, X8, e8, E8, A8, D8, -, st8⟩ := newO X5 hx hZ hown (hw _ (List.mem_of_getElem? (i := 41) rfl)) (hw _ (List.mem_of_getElem? (i := 42) rfl)) (hw _ (List.mem_of_getElem? (i := 26) rfl)) e5 (g := (mkF m 23 #[.val (.int p1)] [])) rfl (hb hby d4_23) (by decide) (by decide)
      obtain ⟨b8, g8⟩ : ∃ z, z = h0.size := ⟨_, rfl⟩
      rw [← g8] at A8 D8 st8
      have g_b8 : n0 ≤ b8 := Nat.le_trans Z0 (Nat.le_of_eq g8.symm)
      have sz_b8 : h0.size ≤ b8 := Nat.le_trans ((Keep.refl h0 [])).1 (Nat.le_of_eq g8.symm)
      have K8 : Keep h0 h8 [] := ((Keep.refl h0 [])).ext E8
      have F8_value : Fld Z h8 b8 "java/lang/Integer" "value" "I" (.int (0 : Int32)) := D8 (Or.inr (hw _ (List.mem_of_getElem? (i := 55) rfl))) (ty := .int) (by decide)
      obtain ⟨_, _, ⟨T9, L9, k9, n9⟩, -, X9, ⟨Lc9, hQ9, l9, y9, z9⟩, st9⟩ := X8.specialBack hx (y := (⟨"java/lang/Integer", "<init>", "(I)V"⟩ : MethodName)) rfl hown (mvT hZ (hw _ (List.mem_of_getElem? (i := 43) rfl))) (mvT hZ (hw _ (List.mem_of_getElem? (i := 44) rfl))) (mvT hZ (hw _ (List.mem_of_getElem? (i := 46) rfl))) (by decide) (backOf (W := 1) (rm6 l Z a0 hw [] b8 p1 h8 n0 (Nat.le_trans Z0 K8.1) A8 F8_value g_b8) hZ (hw _ (List.mem_of_getElem? (i := 46) rfl)) (hw _ (List.mem_of_getElem? (i := 26) rfl)) (by decide) (by decide)) (g := (mkF m 28 #[.val (.int p1)] [(.int p1), (.ref b8), (.ref b8)])) rfl (by rw [hml]; rfl) (Steps.refl _) (a := b8) (argsL := [(.int p1)]) (rest := [(.ref b8)]) (lenOf pd_rm4_0 rfl) rfl (by show 2 * 0 + _ ≤ _; exact Nat.le_of_eq rfl) (hb hby d4_28) (fun _ _ => ⟨rfl, e8, (by decide : 1 + 0 ≤ _), (by decide : 1 + 0 ≤ _)⟩)
      dsimp only [Pt.U, Pt.locs, Pt.cells, Pt.slots] at X9 l9 y9 z9 st9 hQ9
      subst l9 y9 z9
      obtain ⟨rfl, N9q, K9q, A9q⟩ := hQ9
      have N9 := Fr.app N0 N9q
      have K9 : Keep h0 T9.heap [] := (K8).trans K9q (allS (Or.inr sz_b8) all0)
      obtain ⟨fs, hr, hrun, hended, hW, hsame⟩ := X9.leave (v := some (.ref b8)) (fun h => by rw [Bd.returns] at h; cases h)
      refine ⟨_, _, pre6 _ ?_, hrun, hended, _, _, rfl, ?_, ⟨_, rfl⟩, hW, hsame.mono (by decide) (by decide)⟩
      · show Steps p.tables e below (T5.setTop (mkF m 10 #[.val (.int p1)] [(.int (127 : Int32)), (.int p1)])) _
        refine XS.icmpYes X5.here hx rfl (pc0 := 10) (pc' := 23) rfl (hb hby d4_10) rfl (tlt hc7).2.2.1 (by decide) (by decide) ?_
        show Steps p.tables e below (T5.setTop (mkF m 23 #[.val (.int p1)] [])) _
        refine st8 _ ?_
        show Steps p.tables e below (T8.setTop (mkF m 26 #[.val (.int p1)] [(.ref b8)])) _
        refine XS.dup X8.here hx rfl (hb hby d4_26) rfl rfl ?_
        show Steps p.tables e below (T8.setTop (mkF m 27 #[.val (.int p1)] [(.ref b8), (.ref b8)])) _
        refine XS.iloadN X8.here hx rfl (hb hby d4_27) rfl ?_
        show Steps p.tables e below (T8.setTop (mkF m 28 #[.val (.int p1)] [(.int p1), (.ref b8), (.ref b8)])) _
        refine st9.trans ?_
        show Steps p.tables e below (T9.setTop (mkF m 31 #[.val (.int p1)] [(.ref b8)])) _
        jvm_step X9.here [X9.here.top, hx, (hb hby d4_31), X9.method', Bd.returns, Value.isRef, FieldType.isReference]
        first | (intro acts; rw [hr _ acts rfl rfl rfl]) | rw [hr _ _ rfl rfl rfl]
        exact Steps.refl _
      · show Q_rm4 Z p1 wc cl h0 n0 _ T9.heap _
        exact ⟨b8, rfl, N9, own_keep_ext K9, A9q⟩
    · obtain ⟨T10, X10, e10, st10⟩ := getS2 X5 hx hZ hown (host := "") (Or.inl (hw _ (List.mem_of_getElem? (i := 30) rfl))) Via.refl e5 S_cache (g := (mkF m 13 #[.val (.int p1)] [])) rfl (hb hby d4_13)
      obtain ⟨hj0, hj1⟩ := own_cidx hc2 hc7
      obtain ⟨r, hr0, Er⟩ := hcache (p1 + (128 : Int32)) hj0 hj1
      obtain ⟨fs, hr, hrun, hended, hW, hsame⟩ := X10.leave (v := some (.ref r)) (fun h => by rw [Bd.returns] at h; cases h)
      refine ⟨_, _, pre6 _ ?_, hrun, hended, _, _, rfl, ?_, ⟨_, rfl⟩, hW, hsame.mono (by decide) (by decide)⟩
      · show Steps p.tables e below (T5.setTop (mkF m 10 #[.val (.int p1)] [(.int (127 : Int32)), (.int p1)])) _
        refine XS.icmpNo X5.here hx rfl (hb hby d4_10) rfl (flt hc7).2.2.1 ?_
        show Steps p.tables e below (T5.setTop (mkF m 13 #[.val (.int p1)] [])) _
        refine st10 _ ?_
        show Steps p.tables e below (T10.setTop (mkF m 16 #[.val (.int p1)] [(.ref wc)])) _
        refine XS.iloadN X10.here hx rfl (hb hby d4_16) rfl ?_
        show Steps p.tables e below (T10.setTop (mkF m 17 #[.val (.int p1)] [(.int p1), (.ref wc)])) _
        refine XS.sipush X10.here hx rfl (hb hby d4_17) ?_
        show Steps p.tables e below (T10.setTop (mkF m 20 #[.val (.int p1)] [(.int (128 : Int32)), (.int p1), (.ref wc)])) _
        refine XS.iadd X10.here hx rfl (hb hby d4_20) rfl ?_
        show Steps p.tables e below (T10.setTop (mkF m 21 #[.val (.int p1)] [(.int (p1 + (128 : Int32))), (.ref wc)])) _
        refine X10.aaload hx (j := (p1 + (128 : Int32))) (v := (.ref r)) (by rw [e10]; exact Ar.1) (State.isArrayOf_alike hZ.alike Ar.2.1) rfl Ar.2.2 (inb_of hS ⟨hj0, hj1⟩) hr0 (g := (mkF m 21 #[.val (.int p1)] [(.int (p1 + (128 : Int32))), (.ref wc)])) rfl rfl (hb hby d4_21) _ ?_
        show Steps p.tables e below (T10.setTop (mkF m 22 #[.val (.int p1)] [(.ref r)])) _
        jvm_step X10.here [X10.here.top, hx, (hb hby d4_22), X10.method', Bd.returns, Value.isRef, FieldType.isReference]
        first | (intro acts; rw [hr _ acts rfl rfl rfl]) | rw [hr _ _ rfl rfl rfl]
        exact Steps.refl _
      · show Q_rm4 Z p1 wc cl h0 n0 _ T10.heap _
        rw [e10]
        exact ⟨r, rfl, N0, ⟨Nat.le_refl _, fun _ _ q => q⟩, Er⟩
theorem d5_0 : decode prog_34_method_6_code 0 = .ok (.aload_n 1, 1) := by decide +kernel
theorem d5_1 : decode prog_34_method_6_code 1 = .ok (.instanceof 2, 3) := by decide +kernel
theorem d5_4 : decode prog_34_method_6_code 4 = .ok (.ifCond .ne 5, 3) := by decide +kernel
theorem d5_7 : decode prog_34_method_6_code 7 = .ok (.iconst 0, 1) := by decide +kernel
theorem d5_8 : decode prog_34_method_6_code 8 = .ok (.ireturn, 1) := by decide +kernel
theorem pn_rm5n : plainName "com/example/payspread/payspread/model/ExcessRules" = true := by first | (simp [plainName, overriddenIn]; done) | decide +kernel
theorem ef_rm5n (m : MethodId) (a1 : Addr) : entryFrame m #[(.ref a1), .null] 3 = mkF m 0 #[.val (.ref a1), .val .null, .unset] [] := by first | (simp [entryFrame, mkF, argsToLocals, Value.category]; done) | rfl
def Q_rm5n (Z : State) (a1 : Addr) (h0 : Heap) (n0 : Nat) (v : Option Value) (h : Heap) (L : List Loc) : Prop := v = some (.int (0 : Int32)) ∧ Fr n0 L ∧ h = h0
set_option maxRecDepth 65536 in
set_option maxHeartbeats 40000000 in
theorem rm5n (l : Launch) (Z : State) (a0 : Array Value) (hw : ∀ d ∈ tables_1, d.before a0 Z = true) (ws : List Jvm.Cond) (a1 : Addr) (h0 : Heap) (n0 : Nat) (Z0 : n0 ≤ h0.size) :
    MetFree l (⟨"com/example/payspread/payspread/model/ExcessRules", "equals", "(Ljava/lang/Object;)Z"⟩ : MethodName) (head1 (Jvm.Cond.code (⟨"com/example/payspread/payspread/model/ExcessRules", "equals", "(Ljava/lang/Object;)Z"⟩ : MethodName) prog_34_method_6_code 3 (some .boolean) :: ws) ({ frames := 0, cells := 0, slots := 0, locals := 0 } : Room)) (fun a U => a = #[(.ref a1), .null] ∧ Z.Warmed39 U.vm ∧ U.heap = h0) (fun _ _ _ _ _ => True) (fun _ U o U' => ∃ v L, o = .returned v ∧ Q_rm5n Z a1 h0 n0 v U'.heap L ∧ FrameEnd U o U' L ({ frames := 0, cells := 0, slots := 0, locals := 0 } : Room).cells ({ frames := 0, cells := 0, slots := 0, locals := 0 } : Room).slots) := by
  refine MetFree.of_bodySF (plainFor_of_name pn_rm5n) hisR ?_
  intro p e s m args below meth c s₁ Bd hml0 hP hK
  obtain ⟨rfl, hZ, hh⟩ := hP
  have hx := Bd.exec
  have hby := Bd.bytes
  have hml : c.maxLocals = 3 := hml0
  have hown : s.vm.findClass "com/example/payspread/payspread/model/ExcessRules" = some m.cls := findClass_of_methodNamed Bd.named
  have hnm := (name_of_methodNamed Bd.named Bd.method).1
  have X0 : Stand p l e ({ frames := 0, cells := 0, slots := 0, locals := 0 } : Room) s m #[(.ref a1), .null] below meth c s₁ [] 0 0 := Stand.of_body Bd
  have e0 : s₁.heap = h0 := by rw [← hh, Bd.state]; rfl
  have N0 := Fr.nil n0
  have pre0 : ∀ t, Steps p.tables e below (s₁.setTop (mkF m 0 #[.val (.ref a1), .val .null, .unset] [])) t → Steps p.tables e below (s₁.setTop (entryFrame m #[(.ref a1), .null] 3)) t := fun t k => castTop (ef_rm5n m a1) k
  obtain ⟨fs, hr, hrun, hended, hW, hsame⟩ := X0.leave (v := some (.int (0 : Int32))) (fun h => by rw [Bd.returns] at h; cases h)
  refine ⟨_, _, pre0 _ ?_, hrun, hended, _, _, rfl, ?_, ⟨_, rfl⟩, hW, hsame.mono (by decide) (by decide)⟩
  · show Steps p.tables e below (s₁.setTop (mkF m 0 #[.val (.ref a1), .val .null, .unset] [])) _
    refine XS.aloadN X0.here hx rfl (hb hby d5_0) rfl rfl ?_
    show Steps p.tables e below (s₁.setTop (mkF m 1 #[.val (.ref a1), .val .null, .unset] [.null])) _
    refine X0.instanceofNull hx (g := (mkF m 1 #[.val (.ref a1), .val .null, .unset] [.null])) rfl rfl (hb hby d5_1) _ ?_
    show Steps p.tables e below (s₁.setTop (mkF m 4 #[.val (.ref a1), .val .null, .unset] [(.int (0 : Int32))])) _
    refine XS.ifNo X0.here hx rfl (hb hby d5_4) rfl ((if0 _ _).trans (teq (rfl : (0 : Int32) = (0 : Int32))).2) ?_
    show Steps p.tables e below (s₁.setTop (mkF m 7 #[.val (.ref a1), .val .null, .unset] [])) _
    refine XS.iconst X0.here hx rfl (hb hby d5_7) ?_
    show Steps p.tables e below (s₁.setTop (mkF m 8 #[.val (.ref a1), .val .null, .unset] [(.int (0 : Int32))])) _
    exact retN X0 hx (t := .boolean) Bd.returns (by simp) (hb hby d5_8) hr
  · show Q_rm5n Z a1 h0 n0 _ s₁.heap _
    rw [e0]
    exact ⟨rfl, N0, rfl⟩
theorem pn_rm5i : plainName "com/example/payspread/payspread/model/ExcessRules" = true := by first | (simp [plainName, overriddenIn]; done) | decide +kernel
theorem ef_rm5i (m : MethodId) (a1 : Addr) (a2 : Addr) : entryFrame m #[(.ref a1), (.ref a2)] 3 = mkF m 0 #[.val (.ref a1), .val (.ref a2), .unset] [] := by first | (simp [entryFrame, mkF, argsToLocals, Value.category]; done) | rfl
def Q_rm5i (Z : State) (a1 : Addr) (a2 : Addr) (h0 : Heap) (n0 : Nat) (v : Option Value) (h : Heap) (L : List Loc) : Prop := v = some (.int (0 : Int32)) ∧ Fr n0 L ∧ h = h0
set_option maxRecDepth 65536 in
set_option maxHeartbeats 40000000 in
theorem rm5i (l : Launch) (Z : State) (a0 : Array Value) (hw : ∀ d ∈ tables_1, d.before a0 Z = true) (ws : List Jvm.Cond) (a1 : Addr) (a2 : Addr) (h0 : Heap) (n0 : Nat) (Z0 : n0 ≤ h0.size) (E_a2 : Exa Z h0 a2 "java/lang/Integer") (hno : ∃ c t, Z.vm.findClass "java/lang/Integer" = some c ∧ Z.vm.findClass "com/example/payspread/payspread/model/ExcessRules" = some t ∧ Z.vm.assignable c t = false) :
    MetFree l (⟨"com/example/payspread/payspread/model/ExcessRules", "equals", "(Ljava/lang/Object;)Z"⟩ : MethodName) (head1 (Jvm.Cond.code (⟨"com/example/payspread/payspread/model/ExcessRules", "equals", "(Ljava/lang/Object;)Z"⟩ : MethodName) prog_34_method_6_code 3 (some .boolean) :: ws) ({ frames := 0, cells := 0, slots := 0, locals := 0 } : Room)) (fun a U => a = #[(.ref a1), (.ref a2)] ∧ Z.Warmed39 U.vm ∧ U.heap = h0) (fun _ _ _ _ _ => True) (fun _ U o U' => ∃ v L, o = .returned v ∧ Q_rm5i Z a1 a2 h0 n0 v U'.heap L ∧ FrameEnd U o U' L ({ frames := 0, cells := 0, slots := 0, locals := 0 } : Room).cells ({ frames := 0, cells := 0, slots := 0, locals := 0 } : Room).slots) := by
  refine MetFree.of_bodySF (plainFor_of_name pn_rm5i) hisR ?_
  intro p e s m args below meth c s₁ Bd hml0 hP hK
  obtain ⟨rfl, hZ, hh⟩ := hP
  have hx := Bd.exec
  have hby := Bd.bytes
  have hml : c.maxLocals = 3 := hml0
  have hown : s.vm.findClass "com/example/payspread/payspread/model/ExcessRules" = some m.cls := findClass_of_methodNamed Bd.named
  have hnm := (name_of_methodNamed Bd.named Bd.method).1
  have X0 : Stand p l e ({ frames := 0, cells := 0, slots := 0, locals := 0 } : Room) s m #[(.ref a1), (.ref a2)] below meth c s₁ [] 0 0 := Stand.of_body Bd
  have e0 : s₁.heap = h0 := by rw [← hh, Bd.state]; rfl
  have N0 := Fr.nil n0
  have pre0 : ∀ t, Steps p.tables e below (s₁.setTop (mkF m 0 #[.val (.ref a1), .val (.ref a2), .unset] [])) t → Steps p.tables e below (s₁.setTop (entryFrame m #[(.ref a1), (.ref a2)] 3)) t := fun t k => castTop (ef_rm5i m a1 a2) k
  obtain ⟨T1, X1, e1, st1⟩ := instNo X0 hx hZ hown (hw _ (List.mem_of_getElem? (i := 36) rfl)) e0 E_a2 hno (g := (mkF m 1 #[.val (.ref a1), .val (.ref a2), .unset] [(.ref a2)])) rfl rfl (hb hby d5_1)
  obtain ⟨fs, hr, hrun, hended, hW, hsame⟩ := X1.leave (v := some (.int (0 : Int32))) (fun h => by rw [Bd.returns] at h; cases h)
  refine ⟨_, _, pre0 _ ?_, hrun, hended, _, _, rfl, ?_, ⟨_, rfl⟩, hW, hsame.mono (by decide) (by decide)⟩
  · show Steps p.tables e below (s₁.setTop (mkF m 0 #[.val (.ref a1), .val (.ref a2), .unset] [])) _
    refine XS.aloadN X0.here hx rfl (hb hby d5_0) rfl rfl ?_
    show Steps p.tables e below (s₁.setTop (mkF m 1 #[.val (.ref a1), .val (.ref a2), .unset] [(.ref a2)])) _
    refine st1 _ ?_
    show Steps p.tables e below (T1.setTop (mkF m 4 #[.val (.ref a1), .val (.ref a2), .unset] [(.int (0 : Int32))])) _
    refine XS.ifNo X1.here hx rfl (hb hby d5_4) rfl ((if0 _ _).trans (teq (rfl : (0 : Int32) = (0 : Int32))).2) ?_
    show Steps p.tables e below (T1.setTop (mkF m 7 #[.val (.ref a1), .val (.ref a2), .unset] [])) _
    refine XS.iconst X1.here hx rfl (hb hby d5_7) ?_
    show Steps p.tables e below (T1.setTop (mkF m 8 #[.val (.ref a1), .val (.ref a2), .unset] [(.int (0 : Int32))])) _
    exact retN X1 hx (t := .boolean) Bd.returns (by simp) (hb hby d5_8) hr
  · show Q_rm5i Z a1 a2 h0 n0 _ T1.heap _
    rw [e1]
    exact ⟨rfl, N0, rfl⟩
theorem d5_9 : decode prog_34_method_6_code 9 = .ok (.aload_n 1, 1) := by decide +kernel
theorem d5_10 : decode prog_34_method_6_code 10 = .ok (.checkcast 2, 3) := by decide +kernel
theorem d5_13 : decode prog_34_method_6_code 13 = .ok (.astore_n 2, 1) := by decide +kernel
theorem d5_14 : decode prog_34_method_6_code 14 = .ok (.aload_n 0, 1) := by decide +kernel
theorem d5_15 : decode prog_34_method_6_code 15 = .ok (.getfield 12, 3) := by decide +kernel
theorem d5_18 : decode prog_34_method_6_code 18 = .ok (.aload_n 2, 1) := by decide +kernel
theorem d5_19 : decode prog_34_method_6_code 19 = .ok (.getfield 12, 3) := by decide +kernel
theorem d5_22 : decode prog_34_method_6_code 22 = .ok (.if_acmp .ne 29, 3) := by decide +kernel
theorem d5_25 : decode prog_34_method_6_code 25 = .ok (.aload_n 0, 1) := by decide +kernel
theorem d5_26 : decode prog_34_method_6_code 26 = .ok (.getfield 16, 3) := by decide +kernel
theorem d5_29 : decode prog_34_method_6_code 29 = .ok (.aload_n 2, 1) := by decide +kernel
theorem d5_30 : decode prog_34_method_6_code 30 = .ok (.getfield 16, 3) := by decide +kernel
theorem d5_33 : decode prog_34_method_6_code 33 = .ok (.if_icmp .ne 18, 3) := by decide +kernel
theorem d5_36 : decode prog_34_method_6_code 36 = .ok (.aload_n 0, 1) := by decide +kernel
theorem d5_37 : decode prog_34_method_6_code 37 = .ok (.getfield 20, 3) := by decide +kernel
theorem d5_40 : decode prog_34_method_6_code 40 = .ok (.aload_n 2, 1) := by decide +kernel
theorem d5_41 : decode prog_34_method_6_code 41 = .ok (.getfield 20, 3) := by decide +kernel
theorem d5_44 : decode prog_34_method_6_code 44 = .ok (.if_icmp .ne 7, 3) := by decide +kernel
theorem d5_47 : decode prog_34_method_6_code 47 = .ok (.iconst 1, 1) := by decide +kernel
theorem d5_48 : decode prog_34_method_6_code 48 = .ok (.goto 4, 3) := by decide +kernel
theorem d5_51 : decode prog_34_method_6_code 51 = .ok (.iconst 0, 1) := by decide +kernel
theorem d5_52 : decode prog_34_method_6_code 52 = .ok (.ireturn, 1) := by decide +kernel
theorem pn_rm5s : plainName "com/example/payspread/payspread/model/ExcessRules" = true := by first | (simp [plainName, overriddenIn]; done) | decide +kernel
theorem ef_rm5s (m : MethodId) (a1 : Addr) (a2 : Addr) : entryFrame m #[(.ref a1), (.ref a2)] 3 = mkF m 0 #[.val (.ref a1), .val (.ref a2), .unset] [] := by first | (simp [entryFrame, mkF, argsToLocals, Value.category]; done) | rfl
def Q_rm5s (Z : State) (a1 : Addr) (a2 : Addr) (er1 : Addr) (er2 : Addr) (v1 : Int32) (v2 : Int32) (u1 : Int32) (u2 : Int32) (r : Int32) (h0 : Heap) (n0 : Nat) (v : Option Value) (h : Heap) (L : List Loc) : Prop := v = some (.int r) ∧ Fr n0 L ∧ h = h0
set_option maxRecDepth 65536 in
set_option maxHeartbeats 40000000 in
theorem rm5s (l : Launch) (Z : State) (a0 : Array Value) (hw : ∀ d ∈ tables_1, d.before a0 Z = true) (ws : List Jvm.Cond) (a1 : Addr) (a2 : Addr) (er1 : Addr) (er2 : Addr) (v1 : Int32) (v2 : Int32) (u1 : Int32) (u2 : Int32) (r : Int32) (h0 : Heap) (n0 : Nat) (Z0 : n0 ≤ h0.size) (E_a2 : Exa Z h0 a2 "com/example/payspread/payspread/model/ExcessRules") (F1_0 : Fld Z h0 a1 "com/example/payspread/payspread/model/ExcessRules" "excessRule" "Lcom/example/payspread/payspread/model/ExcessRules$ExcessRule;" (.ref er1)) (F1_1 : Fld Z h0 a1 "com/example/payspread/payspread/model/ExcessRules" "wholeInstallmentsFirst" "Z" (.int v1)) (F1_2 : Fld Z h0 a1 "com/example/payspread/payspread/model/ExcessRules" "autoPayoff" "Z" (.int u1)) (F2_0 : Fld Z h0 a2 "com/example/payspread/payspread/model/ExcessRules" "excessRule" "Lcom/example/payspread/payspread/model/ExcessRules$ExcessRule;" (.ref er2)) (F2_1 : Fld Z h0 a2 "com/example/payspread/payspread/model/ExcessRules" "wholeInstallmentsFirst" "Z" (.int v2)) (F2_2 : Fld Z h0 a2 "com/example/payspread/payspread/model/ExcessRules" "autoPayoff" "Z" (.int u2)) (hret : eqW er1 er2 v1 v2 u1 u2 = r) :
    MetFree l (⟨"com/example/payspread/payspread/model/ExcessRules", "equals", "(Ljava/lang/Object;)Z"⟩ : MethodName) (head1 (Jvm.Cond.code (⟨"com/example/payspread/payspread/model/ExcessRules", "equals", "(Ljava/lang/Object;)Z"⟩ : MethodName) prog_34_method_6_code 3 (some .boolean) :: ws) ({ frames := 0, cells := 0, slots := 0, locals := 0 } : Room)) (fun a U => a = #[(.ref a1), (.ref a2)] ∧ Z.Warmed39 U.vm ∧ U.heap = h0) (fun _ _ _ _ _ => True) (fun _ U o U' => ∃ v L, o = .returned v ∧ Q_rm5s Z a1 a2 er1 er2 v1 v2 u1 u2 r h0 n0 v U'.heap L ∧ FrameEnd U o U' L ({ frames := 0, cells := 0, slots := 0, locals := 0 } : Room).cells ({ frames := 0, cells := 0, slots := 0, locals := 0 } : Room).slots) := by
  refine MetFree.of_bodySF (plainFor_of_name pn_rm5s) hisR ?_
  intro p e s m args below meth c s₁ Bd hml0 hP hK
  obtain ⟨rfl, hZ, hh⟩ := hP
  have hx := Bd.exec
  have hby := Bd.bytes
  have hml : c.maxLocals = 3 := hml0
  have hown : s.vm.findClass "com/example/payspread/payspread/model/ExcessRules" = some m.cls := findClass_of_methodNamed Bd.named
  have hnm := (name_of_methodNamed Bd.named Bd.method).1
  have X0 : Stand p l e ({ frames := 0, cells := 0, slots := 0, locals := 0 } : Room) s m #[(.ref a1), (.ref a2)] below meth c s₁ [] 0 0 := Stand.of_body Bd
  have e0 : s₁.heap = h0 := by rw [← hh, Bd.state]; rfl
  have N0 := Fr.nil n0
  have pre0 : ∀ t, Steps p.tables e below (s₁.setTop (mkF m 0 #[.val (.ref a1), .val (.ref a2), .unset] [])) t → Steps p.tables e below (s₁.setTop (entryFrame m #[(.ref a1), (.ref a2)] 3)) t := fun t k => castTop (ef_rm5s m a1 a2) k
  obtain ⟨T1, X1, e1, st1⟩ := instY X0 hx hZ hown (hw _ (List.mem_of_getElem? (i := 36) rfl)) e0 (Ins.self E_a2) (g := (mkF m 1 #[.val (.ref a1), .val (.ref a2), .unset] [(.ref a2)])) rfl rfl (hb hby d5_1)
  obtain ⟨T2, X2, e2, st2⟩ := castY X1 hx hZ hown (hw _ (List.mem_of_getElem? (i := 36) rfl)) e1 (Ins.self E_a2) (g := (mkF m 10 #[.val (.ref a1), .val (.ref a2), .unset] [(.ref a2)])) rfl rfl (hb hby d5_10)
  obtain ⟨T3, X3, e3, st3⟩ := getF X2 hx hZ hown (host := "") (Or.inl (hw _ (List.mem_of_getElem? (i := 16) rfl))) Via.refl e2 F1_0 (g := (mkF m 15 #[.val (.ref a1), .val (.ref a2), .val (.ref a2)] [(.ref a1)])) rfl rfl (hb hby d5_15)
  obtain ⟨T4, X4, e4, st4⟩ := getF X3 hx hZ hown (host := "") (Or.inl (hw _ (List.mem_of_getElem? (i := 16) rfl))) Via.refl e3 F2_0 (g := (mkF m 19 #[.val (.ref a1), .val (.ref a2), .val (.ref a2)] [(.ref a2), (.ref er1)])) rfl rfl (hb hby d5_19)
  have pre5 : ∀ t, Steps p.tables e below (T4.setTop (mkF m 22 #[.val (.ref a1), .val (.ref a2), .val (.ref a2)] [(.ref er2), (.ref er1)])) t → Steps p.tables e below (s₁.setTop (entryFrame m #[(.ref a1), (.ref a2)] 3)) t := fun t k => pre0 t (by
      show Steps p.tables e below (s₁.setTop (mkF m 0 #[.val (.ref a1), .val (.ref a2), .unset] [])) _
      refine XS.aloadN X0.here hx rfl (hb hby d5_0) rfl rfl ?_
      show Steps p.tables e below (s₁.setTop (mkF m 1 #[.val (.ref a1), .val (.ref a2), .unset] [(.ref a2)])) _
      refine st1 _ ?_
      show Steps p.tables e below (T1.setTop (mkF m 4 #[.val (.ref a1), .val (.ref a2), .unset] [(.int (1 : Int32))])) _
      refine XS.ifYes X1.here hx rfl (pc0 := 4) (pc' := 9) rfl (hb hby d5_4) rfl ((if0 _ _).trans (feq (by decide : ¬ ((1 : Int32) = (0 : Int32)))).2) (by decide) (by decide) ?_
      show Steps p.tables e below (T1.setTop (mkF m 9 #[.val (.ref a1), .val (.ref a2), .unset] [])) _
      refine XS.aloadN X1.here hx rfl (hb hby d5_9) rfl rfl ?_
      show Steps p.tables e below (T1.setTop (mkF m 10 #[.val (.ref a1), .val (.ref a2), .unset] [(.ref a2)])) _
      refine st2 _ ?_
      show Steps p.tables e below (T2.setTop (mkF m 13 #[.val (.ref a1), .val (.ref a2), .unset] [(.ref a2)])) _
      refine XS.astoreN X2.here hx rfl (hb hby d5_13) rfl rfl (l' := #[.val (.ref a1), .val (.ref a2), .val (.ref a2)]) rfl ?_
      show Steps p.tables e below (T2.setTop (mkF m 14 #[.val (.ref a1), .val (.ref a2), .val (.ref a2)] [])) _
      refine XS.aloadN X2.here hx rfl (hb hby d5_14) rfl rfl ?_
      show Steps p.tables e below (T2.setTop (mkF m 15 #[.val (.ref a1), .val (.ref a2), .val (.ref a2)] [(.ref a1)])) _
      refine st3 _ ?_
      show Steps p.tables e below (T3.setTop (mkF m 18 #[.val (.ref a1), .val (.ref a2), .val (.ref a2)] [(.ref er1)])) _
      refine XS.aloadN X3.here hx rfl (hb hby d5_18) rfl rfl ?_
      show Steps p.tables e below (T3.setTop (mkF m 19 #[.val (.ref a1), .val (.ref a2), .val (.ref a2)] [(.ref a2), (.ref er1)])) _
      refine st4 _ ?_
      exact k)
  by_cases hc6 : er1 = er2
  · obtain ⟨T7, X7, e7, st7⟩ := getF X4 hx hZ hown (host := "") (Or.inl (hw _ (List.mem_of_getElem? (i := 18) rfl))) Via.refl e4 F1_1 (g := (mkF m 26 #[.val (.ref a1), .val (.ref a2), .val (.ref a2)] [(.ref a1)])) rfl rfl (hb hby d5_26)
    obtain ⟨T8, X8, e8, st8⟩ := getF X7 hx hZ hown (host := "") (Or.inl (hw _ (List.mem_of_getElem? (i := 18) rfl))) Via.refl e7 F2_1 (g := (mkF m 30 #[.val (.ref a1), .val (.ref a2), .val (.ref a2)] [(.ref a2), (.int v1)])) rfl rfl (hb hby d5_30)
    have pre9 : ∀ t, Steps p.tables e below (T8.setTop (mkF m 33 #[.val (.ref a1), .val (.ref a2), .val (.ref a2)] [(.int v2), (.int v1)])) t → Steps p.tables e below (s₁.setTop (entryFrame m #[(.ref a1), (.ref a2)] 3)) t := fun t k => pre5 t (by
        show Steps p.tables e below (T4.setTop (mkF m 22 #[.val (.ref a1), .val (.ref a2), .val (.ref a2)] [(.ref er2), (.ref er1)])) _
        refine Jvm.RoadKit.acmp (g := (mkF m 22 #[.val (.ref a1), .val (.ref a2), .val (.ref a2)] [(.ref er2), (.ref er1)])) X4 hx rfl rfl rfl (pc0 := 22) (pc' := 25) (same := true) rfl (hb hby d5_22) rfl (decide_eq_true (congrArg Value.ref hc6)) (by decide) (by decide) ?_
        show Steps p.tables e below (T4.setTop (mkF m 25 #[.val (.ref a1), .val (.ref a2), .val (.ref a2)] [])) _
        refine XS.aloadN X4.here hx rfl (hb hby d5_25) rfl rfl ?_
        show Steps p.tables e below (T4.setTop (mkF m 26 #[.val (.ref a1), .val (.ref a2), .val (.ref a2)] [(.ref a1)])) _
        refine st7 _ ?_
        show Steps p.tables e below (T7.setTop (mkF m 29 #[.val (.ref a1), .val (.ref a2), .val (.ref a2)] [(.int v1)])) _
        refine XS.aloadN X7.here hx rfl (hb hby d5_29) rfl rfl ?_
        show Steps p.tables e below (T7.setTop (mkF m 30 #[.val (.ref a1), .val (.ref a2), .val (.ref a2)] [(.ref a2), (.int v1)])) _
        refine st8 _ ?_
        exact k)
    by_cases hc10 : v1 = v2
    · obtain ⟨T11, X11, e11, st11⟩ := getF X8 hx hZ hown (host := "") (Or.inl (hw _ (List.mem_of_getElem? (i := 20) rfl))) Via.refl e8 F1_2 (g := (mkF m 37 #[.val (.ref a1), .val (.ref a2), .val (.ref a2)] [(.ref a1)])) rfl rfl (hb hby d5_37)
      obtain ⟨T12, X12, e12, st12⟩ := getF X11 hx hZ hown (host := "") (Or.inl (hw _ (List.mem_of_getElem? (i := 20) rfl))) Via.refl e11 F2_2 (g := (mkF m 41 #[.val (.ref a1), .val (.ref a2), .val (.ref a2)] [(.ref a2), (.int u1)])) rfl rfl (hb hby d5_41)
      have pre13 : ∀ t, Steps p.tables e below (T12.setTop (mkF m 44 #[.val (.ref a1), .val (.ref a2), .val (.ref a2)] [(.int u2), (.int u1)])) t → Steps p.tables e below (s₁.setTop (entryFrame m #[(.ref a1), (.ref a2)] 3)) t := fun t k => pre9 t (by
          show Steps p.tables e below (T8.setTop (mkF m 33 #[.val (.ref a1), .val (.ref a2), .val (.ref a2)] [(.int v2), (.int v1)])) _
          refine XS.icmpNo X8.here hx rfl (hb hby d5_33) rfl (teq hc10).2 ?_
          show Steps p.tables e below (T8.setTop (mkF m 36 #[.val (.ref a1), .val (.ref a2), .val (.ref a2)] [])) _
          refine XS.aloadN X8.here hx rfl (hb hby d5_36) rfl rfl ?_
          show Steps p.tables e below (T8.setTop (mkF m 37 #[.val (.ref a1), .val (.ref a2), .val (.ref a2)] [(.ref a1)])) _
          refine st11 _ ?_
          show Steps p.tables e below (T11.setTop (mkF m 40 #[.val (.ref a1), .val (.ref a2), .val (.ref a2)] [(.int u1)])) _
          refine XS.aloadN X11.here hx rfl (hb hby d5_40) rfl rfl ?_
          show Steps p.tables e below (T11.setTop (mkF m 41 #[.val (.ref a1), .val (.ref a2), .val (.ref a2)] [(.ref a2), (.int u1)])) _
          refine st12 _ ?_
          exact k)
      by_cases hc14 : u1 = u2
      · obtain ⟨fs, hr, hrun, hended, hW, hsame⟩ := X12.leave (v := some (.int (1 : Int32))) (fun h => by rw [Bd.returns] at h; cases h)
        refine ⟨_, _, pre13 _ ?_, hrun, hended, _, _, rfl, ?_, ⟨_, rfl⟩, hW, hsame.mono (by decide) (by decide)⟩
        · show Steps p.tables e below (T12.setTop (mkF m 44 #[.val (.ref a1), .val (.ref a2), .val (.ref a2)] [(.int u2), (.int u1)])) _
          refine XS.icmpNo X12.here hx rfl (hb hby d5_44) rfl (teq hc14).2 ?_
          show Steps p.tables e below (T12.setTop (mkF m 47 #[.val (.ref a1), .val (.ref a2), .val (.ref a2)] [])) _
          refine XS.iconst X12.here hx rfl (hb hby d5_47) ?_
          show Steps p.tables e below (T12.setTop (mkF m 48 #[.val (.ref a1), .val (.ref a2), .val (.ref a2)] [(.int (1 : Int32))])) _
          refine XS.goto X12.here hx rfl (pc0 := 48) (pc' := 52) rfl (hb hby d5_48) (by decide) (by decide) ?_
          show Steps p.tables e below (T12.setTop (mkF m 52 #[.val (.ref a1), .val (.ref a2), .val (.ref a2)] [(.int (1 : Int32))])) _
          exact retN X12 hx (t := .boolean) Bd.returns (by simp) (hb hby d5_52) hr
        · show Q_rm5s Z a1 a2 er1 er2 v1 v2 u1 u2 r h0 n0 _ T12.heap _
          rw [e12]
          exact ⟨by rw [← hret]; simp only [eqW, if_pos hc6, if_pos hc10, if_pos hc14], N0, rfl⟩
      · obtain ⟨fs, hr, hrun, hended, hW, hsame⟩ := X12.leave (v := some (.int (0 : Int32))) (fun h => by rw [Bd.returns] at h; cases h)
        refine ⟨_, _, pre13 _ ?_, hrun, hended, _, _, rfl, ?_, ⟨_, rfl⟩, hW, hsame.mono (by decide) (by decide)⟩
        · show Steps p.tables e below (T12.setTop (mkF m 44 #[.val (.ref a1), .val (.ref a2), .val (.ref a2)] [(.int u2), (.int u1)])) _
          refine XS.icmpYes X12.here hx rfl (pc0 := 44) (pc' := 51) rfl (hb hby d5_44) rfl (feq hc14).2 (by decide) (by decide) ?_
          show Steps p.tables e below (T12.setTop (mkF m 51 #[.val (.ref a1), .val (.ref a2), .val (.ref a2)] [])) _
          refine XS.iconst X12.here hx rfl (hb hby d5_51) ?_
          show Steps p.tables e below (T12.setTop (mkF m 52 #[.val (.ref a1), .val (.ref a2), .val (.ref a2)] [(.int (0 : Int32))])) _
          exact retN X12 hx (t := .boolean) Bd.returns (by simp) (hb hby d5_52) hr
        · show Q_rm5s Z a1 a2 er1 er2 v1 v2 u1 u2 r h0 n0 _ T12.heap _
          rw [e12]
          exact ⟨by rw [← hret]; simp only [eqW, if_pos hc6, if_pos hc10, if_neg hc14], N0, rfl⟩
    · obtain ⟨fs, hr, hrun, hended, hW, hsame⟩ := X8.leave (v := some (.int (0 : Int32))) (fun h => by rw [Bd.returns] at h; cases h)
      refine ⟨_, _, pre9 _ ?_, hrun, hended, _, _, rfl, ?_, ⟨_, rfl⟩, hW, hsame.mono (by decide) (by decide)⟩
      · show Steps p.tables e below (T8.setTop (mkF m 33 #[.val (.ref a1), .val (.ref a2), .val (.ref a2)] [(.int v2), (.int v1)])) _
        refine XS.icmpYes X8.here hx rfl (pc0 := 33) (pc' := 51) rfl (hb hby d5_33) rfl (feq hc10).2 (by decide) (by decide) ?_
        show Steps p.tables e below (T8.setTop (mkF m 51 #[.val (.ref a1), .val (.ref a2), .val (.ref a2)] [])) _
        refine XS.iconst X8.here hx rfl (hb hby d5_51) ?_
        show Steps p.tables e below (T8.setTop (mkF m 52 #[.val (.ref a1), .val (.ref a2), .val (.ref a2)] [(.int (0 : Int32))])) _
        exact retN X8 hx (t := .boolean) Bd.returns (by simp) (hb hby d5_52) hr
      · show Q_rm5s Z a1 a2 er1 er2 v1 v2 u1 u2 r h0 n0 _ T8.heap _
        rw [e8]
        exact ⟨by rw [← hret]; simp only [eqW, if_pos hc6, if_neg hc10], N0, rfl⟩
  · obtain ⟨fs, hr, hrun, hended, hW, hsame⟩ := X4.leave (v := some (.int (0 : Int32))) (fun h => by rw [Bd.returns] at h; cases h)
    refine ⟨_, _, pre5 _ ?_, hrun, hended, _, _, rfl, ?_, ⟨_, rfl⟩, hW, hsame.mono (by decide) (by decide)⟩
    · show Steps p.tables e below (T4.setTop (mkF m 22 #[.val (.ref a1), .val (.ref a2), .val (.ref a2)] [(.ref er2), (.ref er1)])) _
      refine Jvm.RoadKit.acmp (g := (mkF m 22 #[.val (.ref a1), .val (.ref a2), .val (.ref a2)] [(.ref er2), (.ref er1)])) X4 hx rfl rfl rfl (pc0 := 22) (pc' := 51) (same := false) rfl (hb hby d5_22) rfl (decide_eq_false fun q => hc6 (Value.ref.inj q)) (by decide) (by decide) ?_
      show Steps p.tables e below (T4.setTop (mkF m 51 #[.val (.ref a1), .val (.ref a2), .val (.ref a2)] [])) _
      refine XS.iconst X4.here hx rfl (hb hby d5_51) ?_
      show Steps p.tables e below (T4.setTop (mkF m 52 #[.val (.ref a1), .val (.ref a2), .val (.ref a2)] [(.int (0 : Int32))])) _
      exact retN X4 hx (t := .boolean) Bd.returns (by simp) (hb hby d5_52) hr
    · show Q_rm5s Z a1 a2 er1 er2 v1 v2 u1 u2 r h0 n0 _ T4.heap _
      rw [e4]
      exact ⟨by rw [← hret]; simp only [eqW, if_neg hc6], N0, rfl⟩
theorem own_cases8 {k : Int32} (h0 : 0 ≤ k.toInt) (h1 : k.toInt < 8) : k = (0 : Int32) ∨ k = (1 : Int32) ∨ k = (2 : Int32) ∨ k = (3 : Int32) ∨ k = (4 : Int32) ∨ k = (5 : Int32) ∨ k = (6 : Int32) ∨ k = (7 : Int32) := by
  have h : k.toInt = 0 ∨ k.toInt = 1 ∨ k.toInt = 2 ∨ k.toInt = 3 ∨ k.toInt = 4 ∨ k.toInt = 5 ∨ k.toInt = 6 ∨ k.toInt = 7 := by omega
  rcases h with h | h | h | h | h | h | h | h
  · exact Or.inl (Int32.toInt_inj.mp (by rw [h]; rfl))
  · exact Or.inr (Or.inl (Int32.toInt_inj.mp (by rw [h]; rfl)))
  · exact Or.inr (Or.inr (Or.inl (Int32.toInt_inj.mp (by rw [h]; rfl))))
  · exact Or.inr (Or.inr (Or.inr (Or.inl (Int32.toInt_inj.mp (by rw [h]; rfl)))))
  · exact Or.inr (Or.inr (Or.inr (Or.inr (Or.inl (Int32.toInt_inj.mp (by rw [h]; rfl))))))
  · exact Or.inr (Or.inr (Or.inr (Or.inr (Or.inr (Or.inl (Int32.toInt_inj.mp (by rw [h]; rfl)))))))
  · exact Or.inr (Or.inr (Or.inr (Or.inr (Or.inr (Or.inr (Or.inl (Int32.toInt_inj.mp (by rw [h]; rfl))))))))
  · exact Or.inr (Or.inr (Or.inr (Or.inr (Or.inr (Or.inr (Or.inr ((Int32.toInt_inj.mp (by rw [h]; rfl)))))))))
theorem own_and7 (x : Int32) : 0 ≤ (x &&& (7 : Int32)).toInt ∧ (x &&& (7 : Int32)).toInt < 8 := by
  have e1 : (x &&& (7 : Int32)).toInt = x.toInt % 2 ^ 3 := Jvm.Kit.i32_mask x 7 (k := 3) (by decide) (by decide)
  rw [e1]; omega
theorem own_bit (x m : Int32) (h : (7 : Int32) &&& m = m) : x &&& m = (x &&& (7 : Int32)) &&& m := by rw [Int32.and_assoc, h]
theorem own_7iff (a b : Int32) : (a &&& (7 : Int32)) = (b &&& (7 : Int32)) ↔ (((a &&& (1 : Int32)) = (0 : Int32) ↔ (b &&& (1 : Int32)) = (0 : Int32)) ∧ ((a &&& (2 : Int32)) = (0 : Int32) ↔ (b &&& (2 : Int32)) = (0 : Int32)) ∧ ((a &&& (4 : Int32)) = (0 : Int32) ↔ (b &&& (4 : Int32)) = (0 : Int32))) := by
  rw [own_bit a 1 rfl, own_bit b 1 rfl, own_bit a 2 rfl, own_bit b 2 rfl, own_bit a 4 rfl, own_bit b 4 rfl]
  have ha := own_and7 a
  have hb := own_and7 b
  generalize a &&& (7 : Int32) = u at *
  generalize b &&& (7 : Int32) = v at *
  rcases own_cases8 ha.1 ha.2 with rfl | rfl | rfl | rfl | rfl | rfl | rfl | rfl <;> rcases own_cases8 hb.1 hb.2 with rfl | rfl | rfl | rfl | rfl | rfl | rfl | rfl <;> decide
theorem own_narbit (c : Prop) [Decidable c] : nar .boolean (if c then (0 : Int32) else (1 : Int32)) = if c then (0 : Int32) else (1 : Int32) := by split <;> rfl
theorem own_ite01 (c d : Prop) [Decidable c] [Decidable d] : ((if c then (0 : Int32) else (1 : Int32)) = (if d then (0 : Int32) else (1 : Int32))) ↔ (c ↔ d) := by
  by_cases hc : c <;> by_cases hd : d <;> simp [hc, hd]
theorem own_eq7 (a b : Int32) {wP wI : Addr} (h : ¬ wP = wI) : eqW (ruleW a wP wI) (ruleW b wP wI) (nar .boolean (if (a &&& (2 : Int32)) = (0 : Int32) then (0 : Int32) else (1 : Int32))) (nar .boolean (if (b &&& (2 : Int32)) = (0 : Int32) then (0 : Int32) else (1 : Int32))) (nar .boolean (if (a &&& (4 : Int32)) = (0 : Int32) then (0 : Int32) else (1 : Int32))) (nar .boolean (if (b &&& (4 : Int32)) = (0 : Int32) then (0 : Int32) else (1 : Int32))) = (if (a &&& (7 : Int32)) = (b &&& (7 : Int32)) then (1 : Int32) else (0 : Int32)) := by
  have h' : ¬ wI = wP := fun e => h e.symm
  have hr : (ruleW a wP wI = ruleW b wP wI) ↔ ((a &&& (1 : Int32)) = (0 : Int32) ↔ (b &&& (1 : Int32)) = (0 : Int32)) := by
    unfold ruleW
    by_cases ha : (a &&& (1 : Int32)) = (0 : Int32) <;> by_cases hb : (b &&& (1 : Int32)) = (0 : Int32) <;> simp [ha, hb, h, h']
  unfold eqW
  rw [own_narbit, own_narbit, own_narbit, own_narbit]
  by_cases g1 : ruleW a wP wI = ruleW b wP wI
  · rw [if_pos g1]
    by_cases g2 : (if (a &&& (2 : Int32)) = (0 : Int32) then (0 : Int32) else (1 : Int32)) = (if (b &&& (2 : Int32)) = (0 : Int32) then (0 : Int32) else (1 : Int32))
    · rw [if_pos g2]
      by_cases g3 : (if (a &&& (4 : Int32)) = (0 : Int32) then (0 : Int32) else (1 : Int32)) = (if (b &&& (4 : Int32)) = (0 : Int32) then (0 : Int32) else (1 : Int32))
      · rw [if_pos g3, if_pos ((own_7iff a b).mpr ⟨hr.mp g1, (own_ite01 _ _).mp g2, (own_ite01 _ _).mp g3⟩)]
      · rw [if_neg g3, if_neg (fun q => g3 ((own_ite01 _ _).mpr ((own_7iff a b).mp q).2.2))]
    · rw [if_neg g2, if_neg (fun q => g2 ((own_ite01 _ _).mpr ((own_7iff a b).mp q).2.1))]
  · rw [if_neg g1, if_neg (fun q => g1 (hr.mpr ((own_7iff a b).mp q).1))]
theorem pn_rm0 : plainName "com/example/payspread/payspread/model/ExcessRulesEqualsPinLaw" = true := by first | (simp [plainName, overriddenIn]; done) | decide +kernel
theorem pd_rm0_0 : parseMethodDescriptor "(I)Lcom/example/payspread/payspread/model/ExcessRules$ExcessRule;" = some ⟨[.int], some (.object "com/example/payspread/payspread/model/ExcessRules$ExcessRule")⟩ := by decide +kernel
theorem pd_rm0_1 : parseMethodDescriptor "(Lcom/example/payspread/payspread/model/ExcessRules$ExcessRule;ZZ)V" = some ⟨[(.object "com/example/payspread/payspread/model/ExcessRules$ExcessRule"), .boolean, .boolean], none⟩ := by decide +kernel
theorem pd_rm0_2 : parseMethodDescriptor "(Ljava/lang/Object;)Z" = some ⟨[(.object "java/lang/Object")], some .boolean⟩ := by decide +kernel
theorem pd_rm0_3 : parseMethodDescriptor "(I)Ljava/lang/Integer;" = some ⟨[.int], some (.object "java/lang/Integer")⟩ := by decide +kernel
theorem ef_rm0 (m : MethodId) (p1 : Int32) (p2 : Int32) (p3 : Int32) : entryFrame m #[(.int p1), (.int p2), (.int p3)] maxLocals = mkF m 0 #[.val (.int p1), .val (.int p2), .val (.int p3), .unset, .unset, .unset, .unset, .unset] [] := by first | (simp [entryFrame, mkF, argsToLocals, Value.category, maxLocals]; done) | rfl
def Q_rm0 (Z : State) (p1 : Int32) (p2 : Int32) (p3 : Int32) (wP : Addr) (wI : Addr) (wc : Addr) (cl : Cell) (h0 : Heap) (n0 : Nat) (v : Option Value) (h : Heap) (L : List Loc) : Prop := v = some (.int (1 : Int32)) ∧ Fr n0 L
set_option maxRecDepth 65536 in
set_option maxHeartbeats 40000000 in
theorem rm0 (l : Launch) (Z : State) (a0 : Array Value) (hw : ∀ d ∈ tables_1, d.before a0 Z = true) (ws : List Jvm.Cond) (p1 : Int32) (p2 : Int32) (p3 : Int32) (wP : Addr) (wI : Addr) (wc : Addr) (cl : Cell) (h0 : Heap) (n0 : Nat) (Z0 : n0 ≤ h0.size) (S_PRINCIPAL : Sta Z h0 "com/example/payspread/payspread/model/ExcessRules$ExcessRule" "PRINCIPAL" "Lcom/example/payspread/payspread/model/ExcessRules$ExcessRule;" (.ref wP)) (S_INSTALLMENTS : Sta Z h0 "com/example/payspread/payspread/model/ExcessRules$ExcessRule" "INSTALLMENTS" "Lcom/example/payspread/payspread/model/ExcessRules$ExcessRule;" (.ref wI)) (S_high : Sta Z h0 "java/lang/Integer$IntegerCache" "high" "I" (.int (127 : Int32))) (S_cache : Sta Z h0 "java/lang/Integer$IntegerCache" "cache" "[Ljava/lang/Integer;" (.ref wc)) (Ar : Arr Z h0 wc cl (.object "java/lang/Integer")) (hS : cl.slots.size = (256 : Int32).toNatClampNeg) (hcache : ∀ j : Int32, ¬ j < 0 → j < 256 → ∃ a : Addr, cl.slots[j.toNatClampNeg]? = some (.ref a) ∧ Exa Z h0 a "java/lang/Integer") (hPI : ¬ wP = wI) (hno : ∃ c t, Z.vm.findClass "java/lang/Integer" = some c ∧ Z.vm.findClass "com/example/payspread/payspread/model/ExcessRules" = some t ∧ Z.vm.assignable c t = false) :
    MetFree l x (head1 (Jvm.Cond.code x code maxLocals ret :: ws) room_1) (fun a U => a = #[(.int p1), (.int p2), (.int p3)] ∧ Z.Warmed39 U.vm ∧ U.heap = h0) (fun _ _ _ _ _ => True) (fun _ U o U' => ∃ v L, o = .returned v ∧ Q_rm0 Z p1 p2 p3 wP wI wc cl h0 n0 v U'.heap L ∧ FrameEnd U o U' L room_1.cells room_1.slots) := by
  refine MetFree.of_bodySF (plainFor_of_name pn_rm0) hisR ?_
  intro p e s m args below meth c s₁ Bd hml0 hP hK
  obtain ⟨rfl, hZ, hh⟩ := hP
  have hx := Bd.exec
  have hby := Bd.bytes
  have hml : c.maxLocals = 8 := hml0
  have hown : s.vm.findClass "com/example/payspread/payspread/model/ExcessRulesEqualsPinLaw" = some m.cls := findClass_of_methodNamed Bd.named
  have hnm := (name_of_methodNamed Bd.named Bd.method).1
  have X0 : Stand p l e room_1 s m #[(.int p1), (.int p2), (.int p3)] below meth c s₁ [] 0 0 := Stand.of_body Bd
  have e0 : s₁.heap = h0 := by rw [← hh, Bd.state]; rfl
  have N0 := Fr.nil n0
  have pre0 : ∀ t, Steps p.tables e below (s₁.setTop (mkF m 0 #[.val (.int p1), .val (.int p2), .val (.int p3), .unset, .unset, .unset, .unset, .unset] [])) t → Steps p.tables e below (s₁.setTop (entryFrame m #[(.int p1), (.int p2), (.int p3)] maxLocals)) t := fun t k => castTop (ef_rm0 m p1 p2 p3) k
  obtain ⟨T1, h1, X1, e1, E1, A1, D1, -, st1⟩ := newO X0 hx hZ hown (hw _ (List.mem_of_getElem? (i := 0) rfl)) (hw _ (List.mem_of_getElem? (i := 1) rfl)) (hw _ (List.mem_of_getElem? (i := 2) rfl)) e0 (g := (mkF m 0 #[.val (.int p1), .val (.int p2), .val (.int p3), .unset, .unset, .unset, .unset, .unset] [])) rfl (hb hby at_0) (by decide) (by decide)
  obtain ⟨b1, g1⟩ : ∃ z, z = h0.size := ⟨_, rfl⟩
  rw [← g1] at A1 D1 st1
  have g_b1 : n0 ≤ b1 := Nat.le_trans Z0 (Nat.le_of_eq g1.symm)
  have sz_b1 : h0.size ≤ b1 := Nat.le_trans ((Keep.refl h0 [])).1 (Nat.le_of_eq g1.symm)
  have K1 : Keep h0 h1 [] := ((Keep.refl h0 [])).ext E1
  have F1_excessRule : Fld Z h1 b1 "com/example/payspread/payspread/model/ExcessRules" "excessRule" "Lcom/example/payspread/payspread/model/ExcessRules$ExcessRule;" .null := D1 (Or.inr (hw _ (List.mem_of_getElem? (i := 17) rfl))) (ty := (.object "com/example/payspread/payspread/model/ExcessRules$ExcessRule")) (by decide)
  have F1_wholeInstallmentsFirst : Fld Z h1 b1 "com/example/payspread/payspread/model/ExcessRules" "wholeInstallmentsFirst" "Z" (.int (0 : Int32)) := D1 (Or.inr (hw _ (List.mem_of_getElem? (i := 19) rfl))) (ty := .boolean) (by decide)
  have F1_autoPayoff : Fld Z h1 b1 "com/example/payspread/payspread/model/ExcessRules" "autoPayoff" "Z" (.int (0 : Int32)) := D1 (Or.inr (hw _ (List.mem_of_getElem? (i := 21) rfl))) (ty := .boolean) (by decide)
  obtain ⟨_, _, ⟨T2, L2, k2, n2⟩, -, X2, ⟨Lc2, hQ2, l2, y2, z2⟩, st2⟩ := Jvm.LawKit.callS X1 hx (y := (⟨"com/example/payspread/payspread/model/ExcessRulesEqualsPinLaw", "rule", "(I)Lcom/example/payspread/payspread/model/ExcessRules$ExcessRule;"⟩ : MethodName)) hown (mvT hZ (hw _ (List.mem_of_getElem? (i := 3) rfl))) (mvT hZ (hw _ (List.mem_of_getElem? (i := 4) rfl))) (mvT hZ (hw _ (List.mem_of_getElem? (i := 5) rfl))) (mvT hZ (hw _ (List.mem_of_getElem? (i := 6) rfl))) (by decide) (backOf (W := 2) (rm1 l Z a0 hw [] p1 wP wI (ruleW p1 wP wI) h1 n0 (Nat.le_trans Z0 K1.1) (Sta.ext (own_keep_ext K1) S_PRINCIPAL) (Sta.ext (own_keep_ext K1) S_INSTALLMENTS) rfl) hZ (hw _ (List.mem_of_getElem? (i := 6) rfl)) (hw _ (List.mem_of_getElem? (i := 5) rfl)) (by decide) (by decide)) (g := (mkF m 5 #[.val (.int p1), .val (.int p2), .val (.int p3), .unset, .unset, .unset, .unset, .unset] [(.int p1), (.ref b1), (.ref b1)])) rfl (by rw [hml]; rfl) (argsL := [(.int p1)]) (rest := [(.ref b1), (.ref b1)]) (lenOf pd_rm0_0 rfl) rfl (by show 2 * 0 + _ ≤ _; exact Nat.le_of_eq rfl) (hb hby at_5) (fun _ _ => ⟨rfl, e1, (by decide : 1 + 0 ≤ _), (by decide : 3 + 0 ≤ _)⟩)
  dsimp only [Pt.U, Pt.locs, Pt.cells, Pt.slots] at X2 l2 y2 z2 st2 hQ2
  subst l2 y2 z2
  obtain ⟨rfl, N2q, e2⟩ := hQ2
  have N2 := Fr.app N0 N2q
  have pre3 : ∀ t, Steps p.tables e below (T2.setTop (mkF m 11 #[.val (.int p1), .val (.int p2), .val (.int p3), .unset, .unset, .unset, .unset, .unset] [(.int (p1 &&& (2 : Int32))), (.ref (ruleW p1 wP wI)), (.ref b1), (.ref b1)])) t → Steps p.tables e below (s₁.setTop (entryFrame m #[(.int p1), (.int p2), (.int p3)] maxLocals)) t := fun t k => pre0 t (by
      show Steps p.tables e below (s₁.setTop (mkF m 0 #[.val (.int p1), .val (.int p2), .val (.int p3), .unset, .unset, .unset, .unset, .unset] [])) _
      refine st1 _ ?_
      show Steps p.tables e below (T1.setTop (mkF m 3 #[.val (.int p1), .val (.int p2), .val (.int p3), .unset, .unset, .unset, .unset, .unset] [(.ref b1)])) _
      refine XS.dup X1.here hx rfl (hb hby at_3) rfl rfl ?_
      show Steps p.tables e below (T1.setTop (mkF m 4 #[.val (.int p1), .val (.int p2), .val (.int p3), .unset, .unset, .unset, .unset, .unset] [(.ref b1), (.ref b1)])) _
      refine XS.iloadN X1.here hx rfl (hb hby at_4) rfl ?_
      show Steps p.tables e below (T1.setTop (mkF m 5 #[.val (.int p1), .val (.int p2), .val (.int p3), .unset, .unset, .unset, .unset, .unset] [(.int p1), (.ref b1), (.ref b1)])) _
      refine st2 _ ?_
      show Steps p.tables e below (T2.setTop (mkF m 8 #[.val (.int p1), .val (.int p2), .val (.int p3), .unset, .unset, .unset, .unset, .unset] [(.ref (ruleW p1 wP wI)), (.ref b1), (.ref b1)])) _
      refine XS.iloadN X2.here hx rfl (hb hby at_8) rfl ?_
      show Steps p.tables e below (T2.setTop (mkF m 9 #[.val (.int p1), .val (.int p2), .val (.int p3), .unset, .unset, .unset, .unset, .unset] [(.int p1), (.ref (ruleW p1 wP wI)), (.ref b1), (.ref b1)])) _
      refine XS.iconst X2.here hx rfl (hb hby at_9) ?_
      show Steps p.tables e below (T2.setTop (mkF m 10 #[.val (.int p1), .val (.int p2), .val (.int p3), .unset, .unset, .unset, .unset, .unset] [(.int (2 : Int32)), (.int p1), (.ref (ruleW p1 wP wI)), (.ref b1), (.ref b1)])) _
      refine XS.iand X2.here hx rfl (hb hby at_10) rfl ?_
      exact k)
  have pre5 : ∀ t, Steps p.tables e below (T2.setTop (mkF m 19 #[.val (.int p1), .val (.int p2), .val (.int p3), .unset, .unset, .unset, .unset, .unset] [(.int (if (p1 &&& (2 : Int32)) = (0 : Int32) then (0 : Int32) else (1 : Int32))), (.ref (ruleW p1 wP wI)), (.ref b1), (.ref b1)])) t → Steps p.tables e below (s₁.setTop (entryFrame m #[(.int p1), (.int p2), (.int p3)] maxLocals)) t := fun t k => pre3 t (by
      by_cases hc4 : (p1 &&& (2 : Int32)) = (0 : Int32)
      · show Steps p.tables e below (T2.setTop (mkF m 11 #[.val (.int p1), .val (.int p2), .val (.int p3), .unset, .unset, .unset, .unset, .unset] [(.int (p1 &&& (2 : Int32))), (.ref (ruleW p1 wP wI)), (.ref b1), (.ref b1)])) _
        refine XS.ifYes X2.here hx rfl (pc0 := 11) (pc' := 18) rfl (hb hby at_11) rfl ((if0 _ _).trans (teq hc4).1) (by decide) (by decide) ?_
        show Steps p.tables e below (T2.setTop (mkF m 18 #[.val (.int p1), .val (.int p2), .val (.int p3), .unset, .unset, .unset, .unset, .unset] [(.ref (ruleW p1 wP wI)), (.ref b1), (.ref b1)])) _
        refine XS.iconst X2.here hx rfl (hb hby at_18) ?_
        simp only [if_pos hc4] at k
        exact k
      · show Steps p.tables e below (T2.setTop (mkF m 11 #[.val (.int p1), .val (.int p2), .val (.int p3), .unset, .unset, .unset, .unset, .unset] [(.int (p1 &&& (2 : Int32))), (.ref (ruleW p1 wP wI)), (.ref b1), (.ref b1)])) _
        refine XS.ifNo X2.here hx rfl (hb hby at_11) rfl ((if0 _ _).trans (feq hc4).1) ?_
        show Steps p.tables e below (T2.setTop (mkF m 14 #[.val (.int p1), .val (.int p2), .val (.int p3), .unset, .unset, .unset, .unset, .unset] [(.ref (ruleW p1 wP wI)), (.ref b1), (.ref b1)])) _
        refine XS.iconst X2.here hx rfl (hb hby at_14) ?_
        show Steps p.tables e below (T2.setTop (mkF m 15 #[.val (.int p1), .val (.int p2), .val (.int p3), .unset, .unset, .unset, .unset, .unset] [(.int (1 : Int32)), (.ref (ruleW p1 wP wI)), (.ref b1), (.ref b1)])) _
        refine XS.goto X2.here hx rfl (pc0 := 15) (pc' := 19) rfl (hb hby at_15) (by decide) (by decide) ?_
        simp only [if_neg hc4] at k
        exact k)
  have pre6 : ∀ t, Steps p.tables e below (T2.setTop (mkF m 22 #[.val (.int p1), .val (.int p2), .val (.int p3), .unset, .unset, .unset, .unset, .unset] [(.int (p1 &&& (4 : Int32))), (.int (if (p1 &&& (2 : Int32)) = (0 : Int32) then (0 : Int32) else (1 : Int32))), (.ref (ruleW p1 wP wI)), (.ref b1), (.ref b1)])) t → Steps p.tables e below (s₁.setTop (entryFrame m #[(.int p1), (.int p2), (.int p3)] maxLocals)) t := fun t k => pre5 t (by
      show Steps p.tables e below (T2.setTop (mkF m 19 #[.val (.int p1), .val (.int p2), .val (.int p3), .unset, .unset, .unset, .unset, .unset] [(.int (if (p1 &&& (2 : Int32)) = (0 : Int32) then (0 : Int32) else (1 : Int32))), (.ref (ruleW p1 wP wI)), (.ref b1), (.ref b1)])) _
      refine XS.iloadN X2.here hx rfl (hb hby at_19) rfl ?_
      show Steps p.tables e below (T2.setTop (mkF m 20 #[.val (.int p1), .val (.int p2), .val (.int p3), .unset, .unset, .unset, .unset, .unset] [(.int p1), (.int (if (p1 &&& (2 : Int32)) = (0 : Int32) then (0 : Int32) else (1 : Int32))), (.ref (ruleW p1 wP wI)), (.ref b1), (.ref b1)])) _
      refine XS.iconst X2.here hx rfl (hb hby at_20) ?_
      show Steps p.tables e below (T2.setTop (mkF m 21 #[.val (.int p1), .val (.int p2), .val (.int p3), .unset, .unset, .unset, .unset, .unset] [(.int (4 : Int32)), (.int p1), (.int (if (p1 &&& (2 : Int32)) = (0 : Int32) then (0 : Int32) else (1 : Int32))), (.ref (ruleW p1 wP wI)), (.ref b1), (.ref b1)])) _
      refine XS.iand X2.here hx rfl (hb hby at_21) rfl ?_
      exact k)
  have pre8 : ∀ t, Steps p.tables e below (T2.setTop (mkF m 30 #[.val (.int p1), .val (.int p2), .val (.int p3), .unset, .unset, .unset, .unset, .unset] [(.int (if (p1 &&& (4 : Int32)) = (0 : Int32) then (0 : Int32) else (1 : Int32))), (.int (if (p1 &&& (2 : Int32)) = (0 : Int32) then (0 : Int32) else (1 : Int32))), (.ref (ruleW p1 wP wI)), (.ref b1), (.ref b1)])) t → Steps p.tables e below (s₁.setTop (entryFrame m #[(.int p1), (.int p2), (.int p3)] maxLocals)) t := fun t k => pre6 t (by
      by_cases hc7 : (p1 &&& (4 : Int32)) = (0 : Int32)
      · show Steps p.tables e below (T2.setTop (mkF m 22 #[.val (.int p1), .val (.int p2), .val (.int p3), .unset, .unset, .unset, .unset, .unset] [(.int (p1 &&& (4 : Int32))), (.int (if (p1 &&& (2 : Int32)) = (0 : Int32) then (0 : Int32) else (1 : Int32))), (.ref (ruleW p1 wP wI)), (.ref b1), (.ref b1)])) _
        refine XS.ifYes X2.here hx rfl (pc0 := 22) (pc' := 29) rfl (hb hby at_22) rfl ((if0 _ _).trans (teq hc7).1) (by decide) (by decide) ?_
        show Steps p.tables e below (T2.setTop (mkF m 29 #[.val (.int p1), .val (.int p2), .val (.int p3), .unset, .unset, .unset, .unset, .unset] [(.int (if (p1 &&& (2 : Int32)) = (0 : Int32) then (0 : Int32) else (1 : Int32))), (.ref (ruleW p1 wP wI)), (.ref b1), (.ref b1)])) _
        refine XS.iconst X2.here hx rfl (hb hby at_29) ?_
        simp only [if_pos hc7] at k
        exact k
      · show Steps p.tables e below (T2.setTop (mkF m 22 #[.val (.int p1), .val (.int p2), .val (.int p3), .unset, .unset, .unset, .unset, .unset] [(.int (p1 &&& (4 : Int32))), (.int (if (p1 &&& (2 : Int32)) = (0 : Int32) then (0 : Int32) else (1 : Int32))), (.ref (ruleW p1 wP wI)), (.ref b1), (.ref b1)])) _
        refine XS.ifNo X2.here hx rfl (hb hby at_22) rfl ((if0 _ _).trans (feq hc7).1) ?_
        show Steps p.tables e below (T2.setTop (mkF m 25 #[.val (.int p1), .val (.int p2), .val (.int p3), .unset, .unset, .unset, .unset, .unset] [(.int (if (p1 &&& (2 : Int32)) = (0 : Int32) then (0 : Int32) else (1 : Int32))), (.ref (ruleW p1 wP wI)), (.ref b1), (.ref b1)])) _
        refine XS.iconst X2.here hx rfl (hb hby at_25) ?_
        show Steps p.tables e below (T2.setTop (mkF m 26 #[.val (.int p1), .val (.int p2), .val (.int p3), .unset, .unset, .unset, .unset, .unset] [(.int (1 : Int32)), (.int (if (p1 &&& (2 : Int32)) = (0 : Int32) then (0 : Int32) else (1 : Int32))), (.ref (ruleW p1 wP wI)), (.ref b1), (.ref b1)])) _
        refine XS.goto X2.here hx rfl (pc0 := 26) (pc' := 30) rfl (hb hby at_26) (by decide) (by decide) ?_
        simp only [if_neg hc7] at k
        exact k)
  obtain ⟨_, _, ⟨T9, L9, k9, n9⟩, -, X9, ⟨Lc9, hQ9, l9, y9, z9⟩, st9⟩ := X2.specialBack hx (y := (⟨"com/example/payspread/payspread/model/ExcessRules", "<init>", "(Lcom/example/payspread/payspread/model/ExcessRules$ExcessRule;ZZ)V"⟩ : MethodName)) rfl hown (mvT hZ (hw _ (List.mem_of_getElem? (i := 10) rfl))) (mvT hZ (hw _ (List.mem_of_getElem? (i := 11) rfl))) (mvT hZ (hw _ (List.mem_of_getElem? (i := 12) rfl))) (by decide) (backOf (W := 1) (rm2 l Z a0 hw [] b1 (ruleW p1 wP wI) (if (p1 &&& (2 : Int32)) = (0 : Int32) then (0 : Int32) else (1 : Int32)) (if (p1 &&& (4 : Int32)) = (0 : Int32) then (0 : Int32) else (1 : Int32)) h1 n0 (Nat.le_trans Z0 K1.1) A1 F1_excessRule F1_wholeInstallmentsFirst F1_autoPayoff g_b1) hZ (hw _ (List.mem_of_getElem? (i := 12) rfl)) (hw _ (List.mem_of_getElem? (i := 2) rfl)) (by decide) (by decide)) (g := (mkF m 30 #[.val (.int p1), .val (.int p2), .val (.int p3), .unset, .unset, .unset, .unset, .unset] [(.int (if (p1 &&& (4 : Int32)) = (0 : Int32) then (0 : Int32) else (1 : Int32))), (.int (if (p1 &&& (2 : Int32)) = (0 : Int32) then (0 : Int32) else (1 : Int32))), (.ref (ruleW p1 wP wI)), (.ref b1), (.ref b1)])) rfl (by rw [hml]; rfl) (Steps.refl _) (a := b1) (argsL := [(.ref (ruleW p1 wP wI)), (.int (if (p1 &&& (2 : Int32)) = (0 : Int32) then (0 : Int32) else (1 : Int32))), (.int (if (p1 &&& (4 : Int32)) = (0 : Int32) then (0 : Int32) else (1 : Int32)))]) (rest := [(.ref b1)]) (lenOf pd_rm0_1 rfl) rfl (by show 2 * 0 + _ ≤ _; exact Nat.le_of_eq rfl) (hb hby at_30) (fun _ _ => ⟨rfl, e2, (by decide : 1 + 0 ≤ _), (by decide : 3 + 0 ≤ _)⟩)
  dsimp only [Pt.U, Pt.locs, Pt.cells, Pt.slots] at X9 l9 y9 z9 st9 hQ9
  subst l9 y9 z9
  obtain ⟨rfl, N9q, K9q, A9q, G9_0, G9_1, G9_2⟩ := hQ9
  have N9 := Fr.app N2 N9q
  have K9 : Keep h0 T9.heap [] := (K1).trans K9q (allS (Or.inr sz_b1) all0)
  obtain ⟨T10, h10, X10, e10, E10, A10, D10, -, st10⟩ := newO X9 hx hZ hown (hw _ (List.mem_of_getElem? (i := 0) rfl)) (hw _ (List.mem_of_getElem? (i := 1) rfl)) (hw _ (List.mem_of_getElem? (i := 2) rfl)) rfl (g := (mkF m 34 #[.val (.int p1), .val (.int p2), .val (.int p3), .val (.ref b1), .unset, .unset, .unset, .unset] [])) rfl (hb hby at_34) (by decide) (by decide)
  obtain ⟨b10, g10⟩ : ∃ z, z = T9.heap.size := ⟨_, rfl⟩
  rw [← g10] at A10 D10 st10
  have ne_b1_b10 : b1 ≠ b10 := Nat.ne_of_lt (Nat.lt_of_lt_of_le A9q.lt (Nat.le_of_eq g10.symm))
  have g_b10 : n0 ≤ b10 := Nat.le_trans (Nat.le_trans Z0 K9.1) (Nat.le_of_eq g10.symm)
  have sz_b10 : h0.size ≤ b10 := Nat.le_trans (K9).1 (Nat.le_of_eq g10.symm)
  have K10 : Keep h0 h10 [] := (K9).ext E10
  have F10_excessRule : Fld Z h10 b10 "com/example/payspread/payspread/model/ExcessRules" "excessRule" "Lcom/example/payspread/payspread/model/ExcessRules$ExcessRule;" .null := D10 (Or.inr (hw _ (List.mem_of_getElem? (i := 17) rfl))) (ty := (.object "com/example/payspread/payspread/model/ExcessRules$ExcessRule")) (by decide)
  have F10_wholeInstallmentsFirst : Fld Z h10 b10 "com/example/payspread/payspread/model/ExcessRules" "wholeInstallmentsFirst" "Z" (.int (0 : Int32)) := D10 (Or.inr (hw _ (List.mem_of_getElem? (i := 19) rfl))) (ty := .boolean) (by decide)
  have F10_autoPayoff : Fld Z h10 b10 "com/example/payspread/payspread/model/ExcessRules" "autoPayoff" "Z" (.int (0 : Int32)) := D10 (Or.inr (hw _ (List.mem_of_getElem? (i := 21) rfl))) (ty := .boolean) (by decide)
  obtain ⟨_, _, ⟨T11, L11, k11, n11⟩, -, X11, ⟨Lc11, hQ11, l11, y11, z11⟩, st11⟩ := Jvm.LawKit.callS X10 hx (y := (⟨"com/example/payspread/payspread/model/ExcessRulesEqualsPinLaw", "rule", "(I)Lcom/example/payspread/payspread/model/ExcessRules$ExcessRule;"⟩ : MethodName)) hown (mvT hZ (hw _ (List.mem_of_getElem? (i := 3) rfl))) (mvT hZ (hw _ (List.mem_of_getElem? (i := 4) rfl))) (mvT hZ (hw _ (List.mem_of_getElem? (i := 5) rfl))) (mvT hZ (hw _ (List.mem_of_getElem? (i := 6) rfl))) (by decide) (backOf (W := 2) (rm1 l Z a0 hw [] p2 wP wI (ruleW p2 wP wI) h10 n0 (Nat.le_trans Z0 K10.1) (Sta.ext (own_keep_ext K10) S_PRINCIPAL) (Sta.ext (own_keep_ext K10) S_INSTALLMENTS) rfl) hZ (hw _ (List.mem_of_getElem? (i := 6) rfl)) (hw _ (List.mem_of_getElem? (i := 5) rfl)) (by decide) (by decide)) (g := (mkF m 39 #[.val (.int p1), .val (.int p2), .val (.int p3), .val (.ref b1), .unset, .unset, .unset, .unset] [(.int p2), (.ref b10), (.ref b10)])) rfl (by rw [hml]; rfl) (argsL := [(.int p2)]) (rest := [(.ref b10), (.ref b10)]) (lenOf pd_rm0_0 rfl) rfl (by show 2 * 0 + _ ≤ _; exact Nat.le_of_eq rfl) (hb hby at_39) (fun _ _ => ⟨rfl, e10, (by decide : 2 + 0 ≤ _), (by decide : 6 + 0 ≤ _)⟩)
  dsimp only [Pt.U, Pt.locs, Pt.cells, Pt.slots] at X11 l11 y11 z11 st11 hQ11
  subst l11 y11 z11
  obtain ⟨rfl, N11q, e11⟩ := hQ11
  have N11 := Fr.app N9 N11q
  have pre12 : ∀ t, Steps p.tables e below (T11.setTop (mkF m 45 #[.val (.int p1), .val (.int p2), .val (.int p3), .val (.ref b1), .unset, .unset, .unset, .unset] [(.int (p2 &&& (2 : Int32))), (.ref (ruleW p2 wP wI)), (.ref b10), (.ref b10)])) t → Steps p.tables e below (s₁.setTop (entryFrame m #[(.int p1), (.int p2), (.int p3)] maxLocals)) t := fun t k => pre8 t (by
      show Steps p.tables e below (T2.setTop (mkF m 30 #[.val (.int p1), .val (.int p2), .val (.int p3), .unset, .unset, .unset, .unset, .unset] [(.int (if (p1 &&& (4 : Int32)) = (0 : Int32) then (0 : Int32) else (1 : Int32))), (.int (if (p1 &&& (2 : Int32)) = (0 : Int32) then (0 : Int32) else (1 : Int32))), (.ref (ruleW p1 wP wI)), (.ref b1), (.ref b1)])) _
      refine st9.trans ?_
      show Steps p.tables e below (T9.setTop (mkF m 33 #[.val (.int p1), .val (.int p2), .val (.int p3), .unset, .unset, .unset, .unset, .unset] [(.ref b1)])) _
      refine XS.astoreN X9.here hx rfl (hb hby at_33) rfl rfl (l' := #[.val (.int p1), .val (.int p2), .val (.int p3), .val (.ref b1), .unset, .unset, .unset, .unset]) rfl ?_
      show Steps p.tables e below (T9.setTop (mkF m 34 #[.val (.int p1), .val (.int p2), .val (.int p3), .val (.ref b1), .unset, .unset, .unset, .unset] [])) _
      refine st10 _ ?_
      show Steps p.tables e below (T10.setTop (mkF m 37 #[.val (.int p1), .val (.int p2), .val (.int p3), .val (.ref b1), .unset, .unset, .unset, .unset] [(.ref b10)])) _
      refine XS.dup X10.here hx rfl (hb hby at_37) rfl rfl ?_
      show Steps p.tables e below (T10.setTop (mkF m 38 #[.val (.int p1), .val (.int p2), .val (.int p3), .val (.ref b1), .unset, .unset, .unset, .unset] [(.ref b10), (.ref b10)])) _
      refine XS.iloadN X10.here hx rfl (hb hby at_38) rfl ?_
      show Steps p.tables e below (T10.setTop (mkF m 39 #[.val (.int p1), .val (.int p2), .val (.int p3), .val (.ref b1), .unset, .unset, .unset, .unset] [(.int p2), (.ref b10), (.ref b10)])) _
      refine st11 _ ?_
      show Steps p.tables e below (T11.setTop (mkF m 42 #[.val (.int p1), .val (.int p2), .val (.int p3), .val (.ref b1), .unset, .unset, .unset, .unset] [(.ref (ruleW p2 wP wI)), (.ref b10), (.ref b10)])) _
      refine XS.iloadN X11.here hx rfl (hb hby at_42) rfl ?_
      show Steps p.tables e below (T11.setTop (mkF m 43 #[.val (.int p1), .val (.int p2), .val (.int p3), .val (.ref b1), .unset, .unset, .unset, .unset] [(.int p2), (.ref (ruleW p2 wP wI)), (.ref b10), (.ref b10)])) _
      refine XS.iconst X11.here hx rfl (hb hby at_43) ?_
      show Steps p.tables e below (T11.setTop (mkF m 44 #[.val (.int p1), .val (.int p2), .val (.int p3), .val (.ref b1), .unset, .unset, .unset, .unset] [(.int (2 : Int32)), (.int p2), (.ref (ruleW p2 wP wI)), (.ref b10), (.ref b10)])) _
      refine XS.iand X11.here hx rfl (hb hby at_44) rfl ?_
      exact k)
  have pre14 : ∀ t, Steps p.tables e below (T11.setTop (mkF m 53 #[.val (.int p1), .val (.int p2), .val (.int p3), .val (.ref b1), .unset, .unset, .unset, .unset] [(.int (if (p2 &&& (2 : Int32)) = (0 : Int32) then (0 : Int32) else (1 : Int32))), (.ref (ruleW p2 wP wI)), (.ref b10), (.ref b10)])) t → Steps p.tables e below (s₁.setTop (entryFrame m #[(.int p1), (.int p2), (.int p3)] maxLocals)) t := fun t k => pre12 t (by
      by_cases hc13 : (p2 &&& (2 : Int32)) = (0 : Int32)
      · show Steps p.tables e below (T11.setTop (mkF m 45 #[.val (.int p1), .val (.int p2), .val (.int p3), .val (.ref b1), .unset, .unset, .unset, .unset] [(.int (p2 &&& (2 : Int32))), (.ref (ruleW p2 wP wI)), (.ref b10), (.ref b10)])) _
        refine XS.ifYes X11.here hx rfl (pc0 := 45) (pc' := 52) rfl (hb hby at_45) rfl ((if0 _ _).trans (teq hc13).1) (by decide) (by decide) ?_
        show Steps p.tables e below (T11.setTop (mkF m 52 #[.val (.int p1), .val (.int p2), .val (.int p3), .val (.ref b1), .unset, .unset, .unset, .unset] [(.ref (ruleW p2 wP wI)), (.ref b10), (.ref b10)])) _
        refine XS.iconst X11.here hx rfl (hb hby at_52) ?_
        simp only [if_pos hc13] at k
        exact k
      · show Steps p.tables e below (T11.setTop (mkF m 45 #[.val (.int p1), .val (.int p2), .val (.int p3), .val (.ref b1), .unset, .unset, .unset, .unset] [(.int (p2 &&& (2 : Int32))), (.ref (ruleW p2 wP wI)), (.ref b10), (.ref b10)])) _
        refine XS.ifNo X11.here hx rfl (hb hby at_45) rfl ((if0 _ _).trans (feq hc13).1) ?_
        show Steps p.tables e below (T11.setTop (mkF m 48 #[.val (.int p1), .val (.int p2), .val (.int p3), .val (.ref b1), .unset, .unset, .unset, .unset] [(.ref (ruleW p2 wP wI)), (.ref b10), (.ref b10)])) _
        refine XS.iconst X11.here hx rfl (hb hby at_48) ?_
        show Steps p.tables e below (T11.setTop (mkF m 49 #[.val (.int p1), .val (.int p2), .val (.int p3), .val (.ref b1), .unset, .unset, .unset, .unset] [(.int (1 : Int32)), (.ref (ruleW p2 wP wI)), (.ref b10), (.ref b10)])) _
        refine XS.goto X11.here hx rfl (pc0 := 49) (pc' := 53) rfl (hb hby at_49) (by decide) (by decide) ?_
        simp only [if_neg hc13] at k
        exact k)
  have pre15 : ∀ t, Steps p.tables e below (T11.setTop (mkF m 56 #[.val (.int p1), .val (.int p2), .val (.int p3), .val (.ref b1), .unset, .unset, .unset, .unset] [(.int (p2 &&& (4 : Int32))), (.int (if (p2 &&& (2 : Int32)) = (0 : Int32) then (0 : Int32) else (1 : Int32))), (.ref (ruleW p2 wP wI)), (.ref b10), (.ref b10)])) t → Steps p.tables e below (s₁.setTop (entryFrame m #[(.int p1), (.int p2), (.int p3)] maxLocals)) t := fun t k => pre14 t (by
      show Steps p.tables e below (T11.setTop (mkF m 53 #[.val (.int p1), .val (.int p2), .val (.int p3), .val (.ref b1), .unset, .unset, .unset, .unset] [(.int (if (p2 &&& (2 : Int32)) = (0 : Int32) then (0 : Int32) else (1 : Int32))), (.ref (ruleW p2 wP wI)), (.ref b10), (.ref b10)])) _
      refine XS.iloadN X11.here hx rfl (hb hby at_53) rfl ?_
      show Steps p.tables e below (T11.setTop (mkF m 54 #[.val (.int p1), .val (.int p2), .val (.int p3), .val (.ref b1), .unset, .unset, .unset, .unset] [(.int p2), (.int (if (p2 &&& (2 : Int32)) = (0 : Int32) then (0 : Int32) else (1 : Int32))), (.ref (ruleW p2 wP wI)), (.ref b10), (.ref b10)])) _
      refine XS.iconst X11.here hx rfl (hb hby at_54) ?_
      show Steps p.tables e below (T11.setTop (mkF m 55 #[.val (.int p1), .val (.int p2), .val (.int p3), .val (.ref b1), .unset, .unset, .unset, .unset] [(.int (4 : Int32)), (.int p2), (.int (if (p2 &&& (2 : Int32)) = (0 : Int32) then (0 : Int32) else (1 : Int32))), (.ref (ruleW p2 wP wI)), (.ref b10), (.ref b10)])) _
      refine XS.iand X11.here hx rfl (hb hby at_55) rfl ?_
      exact k)
  have pre17 : ∀ t, Steps p.tables e below (T11.setTop (mkF m 64 #[.val (.int p1), .val (.int p2), .val (.int p3), .val (.ref b1), .unset, .unset, .unset, .unset] [(.int (if (p2 &&& (4 : Int32)) = (0 : Int32) then (0 : Int32) else (1 : Int32))), (.int (if (p2 &&& (2 : Int32)) = (0 : Int32) then (0 : Int32) else (1 : Int32))), (.ref (ruleW p2 wP wI)), (.ref b10), (.ref b10)])) t → Steps p.tables e below (s₁.setTop (entryFrame m #[(.int p1), (.int p2), (.int p3)] maxLocals)) t := fun t k => pre15 t (by
      by_cases hc16 : (p2 &&& (4 : Int32)) = (0 : Int32)
      · show Steps p.tables e below (T11.setTop (mkF m 56 #[.val (.int p1), .val (.int p2), .val (.int p3), .val (.ref b1), .unset, .unset, .unset, .unset] [(.int (p2 &&& (4 : Int32))), (.int (if (p2 &&& (2 : Int32)) = (0 : Int32) then (0 : Int32) else (1 : Int32))), (.ref (ruleW p2 wP wI)), (.ref b10), (.ref b10)])) _
        refine XS.ifYes X11.here hx rfl (pc0 := 56) (pc' := 63) rfl (hb hby at_56) rfl ((if0 _ _).trans (teq hc16).1) (by decide) (by decide) ?_
        show Steps p.tables e below (T11.setTop (mkF m 63 #[.val (.int p1), .val (.int p2), .val (.int p3), .val (.ref b1), .unset, .unset, .unset, .unset] [(.int (if (p2 &&& (2 : Int32)) = (0 : Int32) then (0 : Int32) else (1 : Int32))), (.ref (ruleW p2 wP wI)), (.ref b10), (.ref b10)])) _
        refine XS.iconst X11.here hx rfl (hb hby at_63) ?_
        simp only [if_pos hc16] at k
        exact k
      · show Steps p.tables e below (T11.setTop (mkF m 56 #[.val (.int p1), .val (.int p2), .val (.int p3), .val (.ref b1), .unset, .unset, .unset, .unset] [(.int (p2 &&& (4 : Int32))), (.int (if (p2 &&& (2 : Int32)) = (0 : Int32) then (0 : Int32) else (1 : Int32))), (.ref (ruleW p2 wP wI)), (.ref b10), (.ref b10)])) _
        refine XS.ifNo X11.here hx rfl (hb hby at_56) rfl ((if0 _ _).trans (feq hc16).1) ?_
        show Steps p.tables e below (T11.setTop (mkF m 59 #[.val (.int p1), .val (.int p2), .val (.int p3), .val (.ref b1), .unset, .unset, .unset, .unset] [(.int (if (p2 &&& (2 : Int32)) = (0 : Int32) then (0 : Int32) else (1 : Int32))), (.ref (ruleW p2 wP wI)), (.ref b10), (.ref b10)])) _
        refine XS.iconst X11.here hx rfl (hb hby at_59) ?_
        show Steps p.tables e below (T11.setTop (mkF m 60 #[.val (.int p1), .val (.int p2), .val (.int p3), .val (.ref b1), .unset, .unset, .unset, .unset] [(.int (1 : Int32)), (.int (if (p2 &&& (2 : Int32)) = (0 : Int32) then (0 : Int32) else (1 : Int32))), (.ref (ruleW p2 wP wI)), (.ref b10), (.ref b10)])) _
        refine XS.goto X11.here hx rfl (pc0 := 60) (pc' := 64) rfl (hb hby at_60) (by decide) (by decide) ?_
        simp only [if_neg hc16] at k
        exact k)
  obtain ⟨_, _, ⟨T18, L18, k18, n18⟩, -, X18, ⟨Lc18, hQ18, l18, y18, z18⟩, st18⟩ := X11.specialBack hx (y := (⟨"com/example/payspread/payspread/model/ExcessRules", "<init>", "(Lcom/example/payspread/payspread/model/ExcessRules$ExcessRule;ZZ)V"⟩ : MethodName)) rfl hown (mvT hZ (hw _ (List.mem_of_getElem? (i := 10) rfl))) (mvT hZ (hw _ (List.mem_of_getElem? (i := 11) rfl))) (mvT hZ (hw _ (List.mem_of_getElem? (i := 12) rfl))) (by decide) (backOf (W := 1) (rm2 l Z a0 hw [] b10 (ruleW p2 wP wI) (if (p2 &&& (2 : Int32)) = (0 : Int32) then (0 : Int32) else (1 : Int32)) (if (p2 &&& (4 : Int32)) = (0 : Int32) then (0 : Int32) else (1 : Int32)) h10 n0 (Nat.le_trans Z0 K10.1) A10 F10_excessRule F10_wholeInstallmentsFirst F10_autoPayoff g_b10) hZ (hw _ (List.mem_of_getElem? (i := 12) rfl)) (hw _ (List.mem_of_getElem? (i := 2) rfl)) (by decide) (by decide)) (g := (mkF m 64 #[.val (.int p1), .val (.int p2), .val (.int p3), .val (.ref b1), .unset, .unset, .unset, .unset] [(.int (if (p2 &&& (4 : Int32)) = (0 : Int32) then (0 : Int32) else (1 : Int32))), (.int (if (p2 &&& (2 : Int32)) = (0 : Int32) then (0 : Int32) else (1 : Int32))), (.ref (ruleW p2 wP wI)), (.ref b10), (.ref b10)])) rfl (by rw [hml]; rfl) (Steps.refl _) (a := b10) (argsL := [(.ref (ruleW p2 wP wI)), (.int (if (p2 &&& (2 : Int32)) = (0 : Int32) then (0 : Int32) else (1 : Int32))), (.int (if (p2 &&& (4 : Int32)) = (0 : Int32) then (0 : Int32) else (1 : Int32)))]) (rest := [(.ref b10)]) (lenOf pd_rm0_1 rfl) rfl (by show 2 * 0 + _ ≤ _; exact Nat.le_of_eq rfl) (hb hby at_64) (fun _ _ => ⟨rfl, e11, (by decide : 2 + 0 ≤ _), (by decide : 6 + 0 ≤ _)⟩)
  dsimp only [Pt.U, Pt.locs, Pt.cells, Pt.slots] at X18 l18 y18 z18 st18 hQ18
  subst l18 y18 z18
  obtain ⟨rfl, N18q, K18q, A18q, G18_0, G18_1, G18_2⟩ := hQ18
  have N18 := Fr.app N11 N18q
  have K18 : Keep h0 T18.heap [] := (K10).trans K18q (allS (Or.inr sz_b10) all0)
  have pre19 : ∀ t, Steps p.tables e below (T18.setTop (mkF m 76 #[.val (.int p1), .val (.int p2), .val (.int p3), .val (.ref b1), .val (.ref b10), .val (.int (p3 &&& (3 : Int32))), .unset, .unset] [(.int (p3 &&& (3 : Int32)))])) t → Steps p.tables e below (s₁.setTop (entryFrame m #[(.int p1), (.int p2), (.int p3)] maxLocals)) t := fun t k => pre17 t (by
      show Steps p.tables e below (T11.setTop (mkF m 64 #[.val (.int p1), .val (.int p2), .val (.int p3), .val (.ref b1), .unset, .unset, .unset, .unset] [(.int (if (p2 &&& (4 : Int32)) = (0 : Int32) then (0 : Int32) else (1 : Int32))), (.int (if (p2 &&& (2 : Int32)) = (0 : Int32) then (0 : Int32) else (1 : Int32))), (.ref (ruleW p2 wP wI)), (.ref b10), (.ref b10)])) _
      refine st18.trans ?_
      show Steps p.tables e below (T18.setTop (mkF m 67 #[.val (.int p1), .val (.int p2), .val (.int p3), .val (.ref b1), .unset, .unset, .unset, .unset] [(.ref b10)])) _
      refine XS.astore X18.here hx rfl (hb hby at_67) rfl rfl (l' := #[.val (.int p1), .val (.int p2), .val (.int p3), .val (.ref b1), .val (.ref b10), .unset, .unset, .unset]) rfl ?_
      show Steps p.tables e below (T18.setTop (mkF m 69 #[.val (.int p1), .val (.int p2), .val (.int p3), .val (.ref b1), .val (.ref b10), .unset, .unset, .unset] [])) _
      refine XS.iloadN X18.here hx rfl (hb hby at_69) rfl ?_
      show Steps p.tables e below (T18.setTop (mkF m 70 #[.val (.int p1), .val (.int p2), .val (.int p3), .val (.ref b1), .val (.ref b10), .unset, .unset, .unset] [(.int p3)])) _
      refine XS.iconst X18.here hx rfl (hb hby at_70) ?_
      show Steps p.tables e below (T18.setTop (mkF m 71 #[.val (.int p1), .val (.int p2), .val (.int p3), .val (.ref b1), .val (.ref b10), .unset, .unset, .unset] [(.int (3 : Int32)), (.int p3)])) _
      refine XS.iand X18.here hx rfl (hb hby at_71) rfl ?_
      show Steps p.tables e below (T18.setTop (mkF m 72 #[.val (.int p1), .val (.int p2), .val (.int p3), .val (.ref b1), .val (.ref b10), .unset, .unset, .unset] [(.int (p3 &&& (3 : Int32)))])) _
      refine XS.istore X18.here hx rfl (hb hby at_72) rfl (l' := #[.val (.int p1), .val (.int p2), .val (.int p3), .val (.ref b1), .val (.ref b10), .val (.int (p3 &&& (3 : Int32))), .unset, .unset]) rfl ?_
      show Steps p.tables e below (T18.setTop (mkF m 74 #[.val (.int p1), .val (.int p2), .val (.int p3), .val (.ref b1), .val (.ref b10), .val (.int (p3 &&& (3 : Int32))), .unset, .unset] [])) _
      refine XS.iload X18.here hx rfl (hb hby at_74) rfl ?_
      exact k)
  by_cases hc20 : (p3 &&& (3 : Int32)) = (0 : Int32)
  · have pre21 : ∀ t, Steps p.tables e below (T18.setTop (mkF m 91 #[.val (.int p1), .val (.int p2), .val (.int p3), .val (.ref b1), .val (.ref b10), .val (.int (p3 &&& (3 : Int32))), .val (.ref b10), .unset] [(.int (p2 &&& (7 : Int32))), (.int (p1 &&& (7 : Int32)))])) t → Steps p.tables e below (s₁.setTop (entryFrame m #[(.int p1), (.int p2), (.int p3)] maxLocals)) t := fun t k => pre19 t (by
        show Steps p.tables e below (T18.setTop (mkF m 76 #[.val (.int p1), .val (.int p2), .val (.int p3), .val (.ref b1), .val (.ref b10), .val (.int (p3 &&& (3 : Int32))), .unset, .unset] [(.int (p3 &&& (3 : Int32)))])) _
        refine XS.ifNo X18.here hx rfl (hb hby at_76) rfl ((if0 _ _).trans (teq hc20).2) ?_
        show Steps p.tables e below (T18.setTop (mkF m 79 #[.val (.int p1), .val (.int p2), .val (.int p3), .val (.ref b1), .val (.ref b10), .val (.int (p3 &&& (3 : Int32))), .unset, .unset] [])) _
        refine XS.aload X18.here hx rfl (hb hby at_79) rfl rfl ?_
        show Steps p.tables e below (T18.setTop (mkF m 81 #[.val (.int p1), .val (.int p2), .val (.int p3), .val (.ref b1), .val (.ref b10), .val (.int (p3 &&& (3 : Int32))), .unset, .unset] [(.ref b10)])) _
        refine XS.astore X18.here hx rfl (hb hby at_81) rfl rfl (l' := #[.val (.int p1), .val (.int p2), .val (.int p3), .val (.ref b1), .val (.ref b10), .val (.int (p3 &&& (3 : Int32))), .val (.ref b10), .unset]) rfl ?_
        show Steps p.tables e below (T18.setTop (mkF m 83 #[.val (.int p1), .val (.int p2), .val (.int p3), .val (.ref b1), .val (.ref b10), .val (.int (p3 &&& (3 : Int32))), .val (.ref b10), .unset] [])) _
        refine XS.iloadN X18.here hx rfl (hb hby at_83) rfl ?_
        show Steps p.tables e below (T18.setTop (mkF m 84 #[.val (.int p1), .val (.int p2), .val (.int p3), .val (.ref b1), .val (.ref b10), .val (.int (p3 &&& (3 : Int32))), .val (.ref b10), .unset] [(.int p1)])) _
        refine XS.bipush X18.here hx rfl (hb hby at_84) ?_
        show Steps p.tables e below (T18.setTop (mkF m 86 #[.val (.int p1), .val (.int p2), .val (.int p3), .val (.ref b1), .val (.ref b10), .val (.int (p3 &&& (3 : Int32))), .val (.ref b10), .unset] [(.int (7 : Int32)), (.int p1)])) _
        refine XS.iand X18.here hx rfl (hb hby at_86) rfl ?_
        show Steps p.tables e below (T18.setTop (mkF m 87 #[.val (.int p1), .val (.int p2), .val (.int p3), .val (.ref b1), .val (.ref b10), .val (.int (p3 &&& (3 : Int32))), .val (.ref b10), .unset] [(.int (p1 &&& (7 : Int32)))])) _
        refine XS.iloadN X18.here hx rfl (hb hby at_87) rfl ?_
        show Steps p.tables e below (T18.setTop (mkF m 88 #[.val (.int p1), .val (.int p2), .val (.int p3), .val (.ref b1), .val (.ref b10), .val (.int (p3 &&& (3 : Int32))), .val (.ref b10), .unset] [(.int p2), (.int (p1 &&& (7 : Int32)))])) _
        refine XS.bipush X18.here hx rfl (hb hby at_88) ?_
        show Steps p.tables e below (T18.setTop (mkF m 90 #[.val (.int p1), .val (.int p2), .val (.int p3), .val (.ref b1), .val (.ref b10), .val (.int (p3 &&& (3 : Int32))), .val (.ref b10), .unset] [(.int (7 : Int32)), (.int p2), (.int (p1 &&& (7 : Int32)))])) _
        refine XS.iand X18.here hx rfl (hb hby at_90) rfl ?_
        exact k)
    have pre23 : ∀ t, Steps p.tables e below (T18.setTop (mkF m 99 #[.val (.int p1), .val (.int p2), .val (.int p3), .val (.ref b1), .val (.ref b10), .val (.int (p3 &&& (3 : Int32))), .val (.ref b10), .unset] [(.int (if (p1 &&& (7 : Int32)) = (p2 &&& (7 : Int32)) then (1 : Int32) else (0 : Int32)))])) t → Steps p.tables e below (s₁.setTop (entryFrame m #[(.int p1), (.int p2), (.int p3)] maxLocals)) t := fun t k => pre21 t (by
        by_cases hc22 : (p1 &&& (7 : Int32)) = (p2 &&& (7 : Int32))
        · show Steps p.tables e below (T18.setTop (mkF m 91 #[.val (.int p1), .val (.int p2), .val (.int p3), .val (.ref b1), .val (.ref b10), .val (.int (p3 &&& (3 : Int32))), .val (.ref b10), .unset] [(.int (p2 &&& (7 : Int32))), (.int (p1 &&& (7 : Int32)))])) _
          refine XS.icmpNo X18.here hx rfl (hb hby at_91) rfl (teq hc22).2 ?_
          show Steps p.tables e below (T18.setTop (mkF m 94 #[.val (.int p1), .val (.int p2), .val (.int p3), .val (.ref b1), .val (.ref b10), .val (.int (p3 &&& (3 : Int32))), .val (.ref b10), .unset] [])) _
          refine XS.iconst X18.here hx rfl (hb hby at_94) ?_
          show Steps p.tables e below (T18.setTop (mkF m 95 #[.val (.int p1), .val (.int p2), .val (.int p3), .val (.ref b1), .val (.ref b10), .val (.int (p3 &&& (3 : Int32))), .val (.ref b10), .unset] [(.int (1 : Int32))])) _
          refine XS.goto X18.here hx rfl (pc0 := 95) (pc' := 99) rfl (hb hby at_95) (by decide) (by decide) ?_
          simp only [if_pos hc22] at k
          exact k
        · show Steps p.tables e below (T18.setTop (mkF m 91 #[.val (.int p1), .val (.int p2), .val (.int p3), .val (.ref b1), .val (.ref b10), .val (.int (p3 &&& (3 : Int32))), .val (.ref b10), .unset] [(.int (p2 &&& (7 : Int32))), (.int (p1 &&& (7 : Int32)))])) _
          refine XS.icmpYes X18.here hx rfl (pc0 := 91) (pc' := 98) rfl (hb hby at_91) rfl (feq hc22).2 (by decide) (by decide) ?_
          show Steps p.tables e below (T18.setTop (mkF m 98 #[.val (.int p1), .val (.int p2), .val (.int p3), .val (.ref b1), .val (.ref b10), .val (.int (p3 &&& (3 : Int32))), .val (.ref b10), .unset] [])) _
          refine XS.iconst X18.here hx rfl (hb hby at_98) ?_
          simp only [if_neg hc22] at k
          exact k)
    have f24 := ((Exa.ext E10 A9q).keep K18q)
    have f25 := ((Fld.ext E10 G9_0).keep K18q (ninS ne_b1_b10 nin0))
    have f26 := ((Fld.ext E10 G9_1).keep K18q (ninS ne_b1_b10 nin0))
    have f27 := ((Fld.ext E10 G9_2).keep K18q (ninS ne_b1_b10 nin0))
    obtain ⟨cq28, kq28, q28a, q28b, q28c⟩ := isOf hZ rfl f24
    obtain ⟨_, _, ⟨T28, L28, k28, n28⟩, -, X28, ⟨Lc28, hQ28, l28, y28, z28⟩, st28⟩ := X18.virtualBack hx (y := (⟨"com/example/payspread/payspread/model/ExcessRules", "equals", "(Ljava/lang/Object;)Z"⟩ : MethodName)) (z := (⟨"com/example/payspread/payspread/model/ExcessRules", "equals", "(Ljava/lang/Object;)Z"⟩ : MethodName)) hown (mvT hZ (hw _ (List.mem_of_getElem? (i := 31) rfl))) (mvT hZ (hw _ (List.mem_of_getElem? (i := 32) rfl))) (notFace_of_selects (args := #[]) (mvT hZ (hw _ (List.mem_of_getElem? (i := 34) rfl)))) (mvT hZ (hw _ (List.mem_of_getElem? (i := 34) rfl))) (mvT hZ (hw _ (List.mem_of_getElem? (i := 33) rfl))) (by decide) (backOf (W := 0) (rm5s l Z a0 hw [] b1 b10 (ruleW p1 wP wI) (ruleW p2 wP wI) (nar .boolean (if (p1 &&& (2 : Int32)) = (0 : Int32) then (0 : Int32) else (1 : Int32))) (nar .boolean (if (p2 &&& (2 : Int32)) = (0 : Int32) then (0 : Int32) else (1 : Int32))) (nar .boolean (if (p1 &&& (4 : Int32)) = (0 : Int32) then (0 : Int32) else (1 : Int32))) (nar .boolean (if (p2 &&& (4 : Int32)) = (0 : Int32) then (0 : Int32) else (1 : Int32))) (if (p1 &&& (7 : Int32)) = (p2 &&& (7 : Int32)) then (1 : Int32) else (0 : Int32)) T18.heap n0 (Nat.le_trans Z0 K18.1) A18q f25 f26 f27 G18_0 G18_1 G18_2 (own_eq7 p1 p2 hPI)) hZ (hw _ (List.mem_of_getElem? (i := 35) rfl)) (hw _ (List.mem_of_getElem? (i := 2) rfl)) (by decide) (by decide)) q28a q28c (g := (mkF m 146 #[.val (.int p1), .val (.int p2), .val (.int p3), .val (.ref b1), .val (.ref b10), .val (.int (p3 &&& (3 : Int32))), .val (.ref b10), .val (.int (if (p1 &&& (7 : Int32)) = (p2 &&& (7 : Int32)) then (1 : Int32) else (0 : Int32)))] [(.ref b10), (.ref b1)])) rfl (by rw [hml]; rfl) (Steps.refl _) (argsL := [(.ref b10)]) (rest := []) (lenOf pd_rm0_2 rfl) rfl (by show 2 * 0 + _ ≤ _; exact Nat.le_of_eq rfl) (hb hby at_146) (fun _ _ => ⟨rfl, rfl, (by decide : 2 + 0 ≤ _), (by decide : 6 + 0 ≤ _)⟩)
    dsimp only [Pt.U, Pt.locs, Pt.cells, Pt.slots] at X28 l28 y28 z28 st28 hQ28
    subst l28 y28 z28
    obtain ⟨rfl, N28q, e28⟩ := hQ28
    have N28 := Fr.app N18 N28q
    obtain ⟨fs, hr, hrun, hended, hW, hsame⟩ := X28.leave (v := some (.int (1 : Int32))) (fun h => by rw [Bd.returns] at h; cases h)
    refine ⟨_, _, pre23 _ ?_, hrun, hended, _, _, rfl, ?_, ⟨_, rfl⟩, hW, hsame.mono (by decide) (by decide)⟩
    · show Steps p.tables e below (T18.setTop (mkF m 99 #[.val (.int p1), .val (.int p2), .val (.int p3), .val (.ref b1), .val (.ref b10), .val (.int (p3 &&& (3 : Int32))), .val (.ref b10), .unset] [(.int (if (p1 &&& (7 : Int32)) = (p2 &&& (7 : Int32)) then (1 : Int32) else (0 : Int32)))])) _
      refine XS.istore X18.here hx rfl (hb hby at_99) rfl (l' := #[.val (.int p1), .val (.int p2), .val (.int p3), .val (.ref b1), .val (.ref b10), .val (.int (p3 &&& (3 : Int32))), .val (.ref b10), .val (.int (if (p1 &&& (7 : Int32)) = (p2 &&& (7 : Int32)) then (1 : Int32) else (0 : Int32)))]) rfl ?_
      show Steps p.tables e below (T18.setTop (mkF m 101 #[.val (.int p1), .val (.int p2), .val (.int p3), .val (.ref b1), .val (.ref b10), .val (.int (p3 &&& (3 : Int32))), .val (.ref b10), .val (.int (if (p1 &&& (7 : Int32)) = (p2 &&& (7 : Int32)) then (1 : Int32) else (0 : Int32)))] [])) _
      refine XS.goto X18.here hx rfl (pc0 := 101) (pc' := 143) rfl (hb hby at_101) (by decide) (by decide) ?_
      show Steps p.tables e below (T18.setTop (mkF m 143 #[.val (.int p1), .val (.int p2), .val (.int p3), .val (.ref b1), .val (.ref b10), .val (.int (p3 &&& (3 : Int32))), .val (.ref b10), .val (.int (if (p1 &&& (7 : Int32)) = (p2 &&& (7 : Int32)) then (1 : Int32) else (0 : Int32)))] [])) _
      refine XS.aloadN X18.here hx rfl (hb hby at_143) rfl rfl ?_
      show Steps p.tables e below (T18.setTop (mkF m 144 #[.val (.int p1), .val (.int p2), .val (.int p3), .val (.ref b1), .val (.ref b10), .val (.int (p3 &&& (3 : Int32))), .val (.ref b10), .val (.int (if (p1 &&& (7 : Int32)) = (p2 &&& (7 : Int32)) then (1 : Int32) else (0 : Int32)))] [(.ref b1)])) _
      refine XS.aload X18.here hx rfl (hb hby at_144) rfl rfl ?_
      show Steps p.tables e below (T18.setTop (mkF m 146 #[.val (.int p1), .val (.int p2), .val (.int p3), .val (.ref b1), .val (.ref b10), .val (.int (p3 &&& (3 : Int32))), .val (.ref b10), .val (.int (if (p1 &&& (7 : Int32)) = (p2 &&& (7 : Int32)) then (1 : Int32) else (0 : Int32)))] [(.ref b10), (.ref b1)])) _
      refine st28.trans ?_
      show Steps p.tables e below (T28.setTop (mkF m 149 #[.val (.int p1), .val (.int p2), .val (.int p3), .val (.ref b1), .val (.ref b10), .val (.int (p3 &&& (3 : Int32))), .val (.ref b10), .val (.int (if (p1 &&& (7 : Int32)) = (p2 &&& (7 : Int32)) then (1 : Int32) else (0 : Int32)))] [(.int (if (p1 &&& (7 : Int32)) = (p2 &&& (7 : Int32)) then (1 : Int32) else (0 : Int32)))])) _
      refine XS.iload X28.here hx rfl (hb hby at_149) rfl ?_
      show Steps p.tables e below (T28.setTop (mkF m 151 #[.val (.int p1), .val (.int p2), .val (.int p3), .val (.ref b1), .val (.ref b10), .val (.int (p3 &&& (3 : Int32))), .val (.ref b10), .val (.int (if (p1 &&& (7 : Int32)) = (p2 &&& (7 : Int32)) then (1 : Int32) else (0 : Int32)))] [(.int (if (p1 &&& (7 : Int32)) = (p2 &&& (7 : Int32)) then (1 : Int32) else (0 : Int32))), (.int (if (p1 &&& (7 : Int32)) = (p2 &&& (7 : Int32)) then (1 : Int32) else (0 : Int32)))])) _
      refine XS.icmpNo X28.here hx rfl (hb hby at_151) rfl (teq (rfl : (if (p1 &&& (7 : Int32)) = (p2 &&& (7 : Int32)) then (1 : Int32) else (0 : Int32)) = (if (p1 &&& (7 : Int32)) = (p2 &&& (7 : Int32)) then (1 : Int32) else (0 : Int32)))).2 ?_
      show Steps p.tables e below (T28.setTop (mkF m 154 #[.val (.int p1), .val (.int p2), .val (.int p3), .val (.ref b1), .val (.ref b10), .val (.int (p3 &&& (3 : Int32))), .val (.ref b10), .val (.int (if (p1 &&& (7 : Int32)) = (p2 &&& (7 : Int32)) then (1 : Int32) else (0 : Int32)))] [])) _
      refine XS.iconst X28.here hx rfl (hb hby at_154) ?_
      show Steps p.tables e below (T28.setTop (mkF m 155 #[.val (.int p1), .val (.int p2), .val (.int p3), .val (.ref b1), .val (.ref b10), .val (.int (p3 &&& (3 : Int32))), .val (.ref b10), .val (.int (if (p1 &&& (7 : Int32)) = (p2 &&& (7 : Int32)) then (1 : Int32) else (0 : Int32)))] [(.int (1 : Int32))])) _
      refine XS.goto X28.here hx rfl (pc0 := 155) (pc' := 159) rfl (hb hby at_155) (by decide) (by decide) ?_
      show Steps p.tables e below (T28.setTop (mkF m 159 #[.val (.int p1), .val (.int p2), .val (.int p3), .val (.ref b1), .val (.ref b10), .val (.int (p3 &&& (3 : Int32))), .val (.ref b10), .val (.int (if (p1 &&& (7 : Int32)) = (p2 &&& (7 : Int32)) then (1 : Int32) else (0 : Int32)))] [(.int (1 : Int32))])) _
      exact retN X28 hx (t := .boolean) Bd.returns (by simp) (hb hby at_159) hr
    · show Q_rm0 Z p1 p2 p3 wP wI wc cl h0 n0 _ T28.heap _
      rw [e28]
      exact ⟨rfl, N28⟩
  · have pre29 : ∀ t, Steps p.tables e below (T18.setTop (mkF m 107 #[.val (.int p1), .val (.int p2), .val (.int p3), .val (.ref b1), .val (.ref b10), .val (.int (p3 &&& (3 : Int32))), .unset, .unset] [(.int (1 : Int32)), (.int (p3 &&& (3 : Int32)))])) t → Steps p.tables e below (s₁.setTop (entryFrame m #[(.int p1), (.int p2), (.int p3)] maxLocals)) t := fun t k => pre19 t (by
        show Steps p.tables e below (T18.setTop (mkF m 76 #[.val (.int p1), .val (.int p2), .val (.int p3), .val (.ref b1), .val (.ref b10), .val (.int (p3 &&& (3 : Int32))), .unset, .unset] [(.int (p3 &&& (3 : Int32)))])) _
        refine XS.ifYes X18.here hx rfl (pc0 := 76) (pc' := 104) rfl (hb hby at_76) rfl ((if0 _ _).trans (feq hc20).2) (by decide) (by decide) ?_
        show Steps p.tables e below (T18.setTop (mkF m 104 #[.val (.int p1), .val (.int p2), .val (.int p3), .val (.ref b1), .val (.ref b10), .val (.int (p3 &&& (3 : Int32))), .unset, .unset] [])) _
        refine XS.iload X18.here hx rfl (hb hby at_104) rfl ?_
        show Steps p.tables e below (T18.setTop (mkF m 106 #[.val (.int p1), .val (.int p2), .val (.int p3), .val (.ref b1), .val (.ref b10), .val (.int (p3 &&& (3 : Int32))), .unset, .unset] [(.int (p3 &&& (3 : Int32)))])) _
        refine XS.iconst X18.here hx rfl (hb hby at_106) ?_
        exact k)
    by_cases hc30 : (p3 &&& (3 : Int32)) = (1 : Int32)
    · have f31 := ((Exa.ext E10 A9q).keep K18q)
      obtain ⟨cq32, kq32, q32a, q32b, q32c⟩ := isOf hZ rfl f31
      obtain ⟨_, _, ⟨T32, L32, k32, n32⟩, -, X32, ⟨Lc32, hQ32, l32, y32, z32⟩, st32⟩ := X18.virtualBack hx (y := (⟨"com/example/payspread/payspread/model/ExcessRules", "equals", "(Ljava/lang/Object;)Z"⟩ : MethodName)) (z := (⟨"com/example/payspread/payspread/model/ExcessRules", "equals", "(Ljava/lang/Object;)Z"⟩ : MethodName)) hown (mvT hZ (hw _ (List.mem_of_getElem? (i := 31) rfl))) (mvT hZ (hw _ (List.mem_of_getElem? (i := 32) rfl))) (notFace_of_selects (args := #[]) (mvT hZ (hw _ (List.mem_of_getElem? (i := 34) rfl)))) (mvT hZ (hw _ (List.mem_of_getElem? (i := 34) rfl))) (mvT hZ (hw _ (List.mem_of_getElem? (i := 33) rfl))) (by decide) (backOf (W := 0) (rm5n l Z a0 hw [] b1 T18.heap n0 (Nat.le_trans Z0 K18.1)) hZ (hw _ (List.mem_of_getElem? (i := 35) rfl)) (hw _ (List.mem_of_getElem? (i := 2) rfl)) (by decide) (by decide)) q32a q32c (g := (mkF m 146 #[.val (.int p1), .val (.int p2), .val (.int p3), .val (.ref b1), .val (.ref b10), .val (.int (p3 &&& (3 : Int32))), .val .null, .val (.int (0 : Int32))] [.null, (.ref b1)])) rfl (by rw [hml]; rfl) (Steps.refl _) (argsL := [.null]) (rest := []) (lenOf pd_rm0_2 rfl) rfl (by show 2 * 0 + _ ≤ _; exact Nat.le_of_eq rfl) (hb hby at_146) (fun _ _ => ⟨rfl, rfl, (by decide : 2 + 0 ≤ _), (by decide : 6 + 0 ≤ _)⟩)
      dsimp only [Pt.U, Pt.locs, Pt.cells, Pt.slots] at X32 l32 y32 z32 st32 hQ32
      subst l32 y32 z32
      obtain ⟨rfl, N32q, e32⟩ := hQ32
      have N32 := Fr.app N18 N32q
      obtain ⟨fs, hr, hrun, hended, hW, hsame⟩ := X32.leave (v := some (.int (1 : Int32))) (fun h => by rw [Bd.returns] at h; cases h)
      refine ⟨_, _, pre29 _ ?_, hrun, hended, _, _, rfl, ?_, ⟨_, rfl⟩, hW, hsame.mono (by decide) (by decide)⟩
      · show Steps p.tables e below (T18.setTop (mkF m 107 #[.val (.int p1), .val (.int p2), .val (.int p3), .val (.ref b1), .val (.ref b10), .val (.int (p3 &&& (3 : Int32))), .unset, .unset] [(.int (1 : Int32)), (.int (p3 &&& (3 : Int32)))])) _
        refine XS.icmpNo X18.here hx rfl (hb hby at_107) rfl (teq hc30).2 ?_
        show Steps p.tables e below (T18.setTop (mkF m 110 #[.val (.int p1), .val (.int p2), .val (.int p3), .val (.ref b1), .val (.ref b10), .val (.int (p3 &&& (3 : Int32))), .unset, .unset] [])) _
        refine XS.aconstNull X18.here hx rfl (hb hby at_110) ?_
        show Steps p.tables e below (T18.setTop (mkF m 111 #[.val (.int p1), .val (.int p2), .val (.int p3), .val (.ref b1), .val (.ref b10), .val (.int (p3 &&& (3 : Int32))), .unset, .unset] [.null])) _
        refine XS.astore X18.here hx rfl (hb hby at_111) rfl rfl (l' := #[.val (.int p1), .val (.int p2), .val (.int p3), .val (.ref b1), .val (.ref b10), .val (.int (p3 &&& (3 : Int32))), .val .null, .unset]) rfl ?_
        show Steps p.tables e below (T18.setTop (mkF m 113 #[.val (.int p1), .val (.int p2), .val (.int p3), .val (.ref b1), .val (.ref b10), .val (.int (p3 &&& (3 : Int32))), .val .null, .unset] [])) _
        refine XS.iconst X18.here hx rfl (hb hby at_113) ?_
        show Steps p.tables e below (T18.setTop (mkF m 114 #[.val (.int p1), .val (.int p2), .val (.int p3), .val (.ref b1), .val (.ref b10), .val (.int (p3 &&& (3 : Int32))), .val .null, .unset] [(.int (0 : Int32))])) _
        refine XS.istore X18.here hx rfl (hb hby at_114) rfl (l' := #[.val (.int p1), .val (.int p2), .val (.int p3), .val (.ref b1), .val (.ref b10), .val (.int (p3 &&& (3 : Int32))), .val .null, .val (.int (0 : Int32))]) rfl ?_
        show Steps p.tables e below (T18.setTop (mkF m 116 #[.val (.int p1), .val (.int p2), .val (.int p3), .val (.ref b1), .val (.ref b10), .val (.int (p3 &&& (3 : Int32))), .val .null, .val (.int (0 : Int32))] [])) _
        refine XS.goto X18.here hx rfl (pc0 := 116) (pc' := 143) rfl (hb hby at_116) (by decide) (by decide) ?_
        show Steps p.tables e below (T18.setTop (mkF m 143 #[.val (.int p1), .val (.int p2), .val (.int p3), .val (.ref b1), .val (.ref b10), .val (.int (p3 &&& (3 : Int32))), .val .null, .val (.int (0 : Int32))] [])) _
        refine XS.aloadN X18.here hx rfl (hb hby at_143) rfl rfl ?_
        show Steps p.tables e below (T18.setTop (mkF m 144 #[.val (.int p1), .val (.int p2), .val (.int p3), .val (.ref b1), .val (.ref b10), .val (.int (p3 &&& (3 : Int32))), .val .null, .val (.int (0 : Int32))] [(.ref b1)])) _
        refine XS.aload X18.here hx rfl (hb hby at_144) rfl rfl ?_
        show Steps p.tables e below (T18.setTop (mkF m 146 #[.val (.int p1), .val (.int p2), .val (.int p3), .val (.ref b1), .val (.ref b10), .val (.int (p3 &&& (3 : Int32))), .val .null, .val (.int (0 : Int32))] [.null, (.ref b1)])) _
        refine st32.trans ?_
        show Steps p.tables e below (T32.setTop (mkF m 149 #[.val (.int p1), .val (.int p2), .val (.int p3), .val (.ref b1), .val (.ref b10), .val (.int (p3 &&& (3 : Int32))), .val .null, .val (.int (0 : Int32))] [(.int (0 : Int32))])) _
        refine XS.iload X32.here hx rfl (hb hby at_149) rfl ?_
        show Steps p.tables e below (T32.setTop (mkF m 151 #[.val (.int p1), .val (.int p2), .val (.int p3), .val (.ref b1), .val (.ref b10), .val (.int (p3 &&& (3 : Int32))), .val .null, .val (.int (0 : Int32))] [(.int (0 : Int32)), (.int (0 : Int32))])) _
        refine XS.icmpNo X32.here hx rfl (hb hby at_151) rfl (teq (rfl : (0 : Int32) = (0 : Int32))).2 ?_
        show Steps p.tables e below (T32.setTop (mkF m 154 #[.val (.int p1), .val (.int p2), .val (.int p3), .val (.ref b1), .val (.ref b10), .val (.int (p3 &&& (3 : Int32))), .val .null, .val (.int (0 : Int32))] [])) _
        refine XS.iconst X32.here hx rfl (hb hby at_154) ?_
        show Steps p.tables e below (T32.setTop (mkF m 155 #[.val (.int p1), .val (.int p2), .val (.int p3), .val (.ref b1), .val (.ref b10), .val (.int (p3 &&& (3 : Int32))), .val .null, .val (.int (0 : Int32))] [(.int (1 : Int32))])) _
        refine XS.goto X32.here hx rfl (pc0 := 155) (pc' := 159) rfl (hb hby at_155) (by decide) (by decide) ?_
        show Steps p.tables e below (T32.setTop (mkF m 159 #[.val (.int p1), .val (.int p2), .val (.int p3), .val (.ref b1), .val (.ref b10), .val (.int (p3 &&& (3 : Int32))), .val .null, .val (.int (0 : Int32))] [(.int (1 : Int32))])) _
        exact retN X32 hx (t := .boolean) Bd.returns (by simp) (hb hby at_159) hr
      · show Q_rm0 Z p1 p2 p3 wP wI wc cl h0 n0 _ T32.heap _
        rw [e32]
        exact ⟨rfl, N32⟩
    · have pre33 : ∀ t, Steps p.tables e below (T18.setTop (mkF m 122 #[.val (.int p1), .val (.int p2), .val (.int p3), .val (.ref b1), .val (.ref b10), .val (.int (p3 &&& (3 : Int32))), .unset, .unset] [(.int (2 : Int32)), (.int (p3 &&& (3 : Int32)))])) t → Steps p.tables e below (s₁.setTop (entryFrame m #[(.int p1), (.int p2), (.int p3)] maxLocals)) t := fun t k => pre29 t (by
          show Steps p.tables e below (T18.setTop (mkF m 107 #[.val (.int p1), .val (.int p2), .val (.int p3), .val (.ref b1), .val (.ref b10), .val (.int (p3 &&& (3 : Int32))), .unset, .unset] [(.int (1 : Int32)), (.int (p3 &&& (3 : Int32)))])) _
          refine XS.icmpYes X18.here hx rfl (pc0 := 107) (pc' := 119) rfl (hb hby at_107) rfl (feq hc30).2 (by decide) (by decide) ?_
          show Steps p.tables e below (T18.setTop (mkF m 119 #[.val (.int p1), .val (.int p2), .val (.int p3), .val (.ref b1), .val (.ref b10), .val (.int (p3 &&& (3 : Int32))), .unset, .unset] [])) _
          refine XS.iload X18.here hx rfl (hb hby at_119) rfl ?_
          show Steps p.tables e below (T18.setTop (mkF m 121 #[.val (.int p1), .val (.int p2), .val (.int p3), .val (.ref b1), .val (.ref b10), .val (.int (p3 &&& (3 : Int32))), .unset, .unset] [(.int (p3 &&& (3 : Int32)))])) _
          refine XS.iconst X18.here hx rfl (hb hby at_121) ?_
          exact k)
      by_cases hc34 : (p3 &&& (3 : Int32)) = (2 : Int32)
      · obtain ⟨_, _, ⟨T35, L35, k35, n35⟩, -, X35, ⟨Lc35, hQ35, l35, y35, z35⟩, st35⟩ := Jvm.LawKit.callS X18 hx (y := (⟨"java/lang/Integer", "valueOf", "(I)Ljava/lang/Integer;"⟩ : MethodName)) hown (mvT hZ (hw _ (List.mem_of_getElem? (i := 24) rfl))) (mvT hZ (hw _ (List.mem_of_getElem? (i := 25) rfl))) (mvT hZ (hw _ (List.mem_of_getElem? (i := 26) rfl))) (mvT hZ (hw _ (List.mem_of_getElem? (i := 27) rfl))) (by decide) (backOf (W := 0) (rm4 l Z a0 hw [] p1 wc cl T18.heap n0 (Nat.le_trans Z0 K18.1) (Sta.ext (own_keep_ext K18) S_high) (Sta.ext (own_keep_ext K18) S_cache) (Arr.ext (own_keep_ext K18) Ar) hS (fun j h0 h1 => by obtain ⟨a, q1, q2⟩ := hcache j h0 h1; exact ⟨a, q1, Exa.ext (own_keep_ext K18) q2⟩)) hZ (hw _ (List.mem_of_getElem? (i := 27) rfl)) (hw _ (List.mem_of_getElem? (i := 26) rfl)) (by decide) (by decide)) (g := (mkF m 126 #[.val (.int p1), .val (.int p2), .val (.int p3), .val (.ref b1), .val (.ref b10), .val (.int (p3 &&& (3 : Int32))), .unset, .unset] [(.int p1)])) rfl (by rw [hml]; rfl) (argsL := [(.int p1)]) (rest := []) (lenOf pd_rm0_3 rfl) rfl (by show 2 * 0 + _ ≤ _; exact Nat.le_of_eq rfl) (hb hby at_126) (fun _ _ => ⟨rfl, rfl, (by decide : 2 + 1 ≤ _), (by decide : 6 + 1 ≤ _)⟩)
        dsimp only [Pt.U, Pt.locs, Pt.cells, Pt.slots] at X35 l35 y35 z35 st35 hQ35
        subst l35 y35 z35
        obtain ⟨r35, rfl, N35q, E35q, A35q⟩ := hQ35
        have N35 := Fr.app N18 N35q
        have K35 : Keep h0 T35.heap [] := (K18).ext E35q
        have f36 := (Exa.ext E35q ((Exa.ext E10 A9q).keep K18q))
        obtain ⟨cq37, kq37, q37a, q37b, q37c⟩ := isOf hZ rfl f36
        obtain ⟨_, _, ⟨T37, L37, k37, n37⟩, -, X37, ⟨Lc37, hQ37, l37, y37, z37⟩, st37⟩ := X35.virtualBack hx (y := (⟨"com/example/payspread/payspread/model/ExcessRules", "equals", "(Ljava/lang/Object;)Z"⟩ : MethodName)) (z := (⟨"com/example/payspread/payspread/model/ExcessRules", "equals", "(Ljava/lang/Object;)Z"⟩ : MethodName)) hown (mvT hZ (hw _ (List.mem_of_getElem? (i := 31) rfl))) (mvT hZ (hw _ (List.mem_of_getElem? (i := 32) rfl))) (notFace_of_selects (args := #[]) (mvT hZ (hw _ (List.mem_of_getElem? (i := 34) rfl)))) (mvT hZ (hw _ (List.mem_of_getElem? (i := 34) rfl))) (mvT hZ (hw _ (List.mem_of_getElem? (i := 33) rfl))) (by decide) (backOf (W := 0) (rm5i l Z a0 hw [] b1 r35 T35.heap n0 (Nat.le_trans Z0 K35.1) A35q hno) hZ (hw _ (List.mem_of_getElem? (i := 35) rfl)) (hw _ (List.mem_of_getElem? (i := 2) rfl)) (by decide) (by decide)) q37a q37c (g := (mkF m 146 #[.val (.int p1), .val (.int p2), .val (.int p3), .val (.ref b1), .val (.ref b10), .val (.int (p3 &&& (3 : Int32))), .val (.ref r35), .val (.int (0 : Int32))] [(.ref r35), (.ref b1)])) rfl (by rw [hml]; rfl) (Steps.refl _) (argsL := [(.ref r35)]) (rest := []) (lenOf pd_rm0_2 rfl) rfl (by show 2 * 0 + _ ≤ _; exact Nat.le_of_eq rfl) (hb hby at_146) (fun _ _ => ⟨rfl, rfl, (by decide : 3 + 0 ≤ _), (by decide : 7 + 0 ≤ _)⟩)
        dsimp only [Pt.U, Pt.locs, Pt.cells, Pt.slots] at X37 l37 y37 z37 st37 hQ37
        subst l37 y37 z37
        obtain ⟨rfl, N37q, e37⟩ := hQ37
        have N37 := Fr.app N35 N37q
        obtain ⟨fs, hr, hrun, hended, hW, hsame⟩ := X37.leave (v := some (.int (1 : Int32))) (fun h => by rw [Bd.returns] at h; cases h)
        refine ⟨_, _, pre33 _ ?_, hrun, hended, _, _, rfl, ?_, ⟨_, rfl⟩, hW, hsame.mono (by decide) (by decide)⟩
        · show Steps p.tables e below (T18.setTop (mkF m 122 #[.val (.int p1), .val (.int p2), .val (.int p3), .val (.ref b1), .val (.ref b10), .val (.int (p3 &&& (3 : Int32))), .unset, .unset] [(.int (2 : Int32)), (.int (p3 &&& (3 : Int32)))])) _
          refine XS.icmpNo X18.here hx rfl (hb hby at_122) rfl (teq hc34).2 ?_
          show Steps p.tables e below (T18.setTop (mkF m 125 #[.val (.int p1), .val (.int p2), .val (.int p3), .val (.ref b1), .val (.ref b10), .val (.int (p3 &&& (3 : Int32))), .unset, .unset] [])) _
          refine XS.iloadN X18.here hx rfl (hb hby at_125) rfl ?_
          show Steps p.tables e below (T18.setTop (mkF m 126 #[.val (.int p1), .val (.int p2), .val (.int p3), .val (.ref b1), .val (.ref b10), .val (.int (p3 &&& (3 : Int32))), .unset, .unset] [(.int p1)])) _
          refine st35 _ ?_
          show Steps p.tables e below (T35.setTop (mkF m 129 #[.val (.int p1), .val (.int p2), .val (.int p3), .val (.ref b1), .val (.ref b10), .val (.int (p3 &&& (3 : Int32))), .unset, .unset] [(.ref r35)])) _
          refine XS.astore X35.here hx rfl (hb hby at_129) rfl rfl (l' := #[.val (.int p1), .val (.int p2), .val (.int p3), .val (.ref b1), .val (.ref b10), .val (.int (p3 &&& (3 : Int32))), .val (.ref r35), .unset]) rfl ?_
          show Steps p.tables e below (T35.setTop (mkF m 131 #[.val (.int p1), .val (.int p2), .val (.int p3), .val (.ref b1), .val (.ref b10), .val (.int (p3 &&& (3 : Int32))), .val (.ref r35), .unset] [])) _
          refine XS.iconst X35.here hx rfl (hb hby at_131) ?_
          show Steps p.tables e below (T35.setTop (mkF m 132 #[.val (.int p1), .val (.int p2), .val (.int p3), .val (.ref b1), .val (.ref b10), .val (.int (p3 &&& (3 : Int32))), .val (.ref r35), .unset] [(.int (0 : Int32))])) _
          refine XS.istore X35.here hx rfl (hb hby at_132) rfl (l' := #[.val (.int p1), .val (.int p2), .val (.int p3), .val (.ref b1), .val (.ref b10), .val (.int (p3 &&& (3 : Int32))), .val (.ref r35), .val (.int (0 : Int32))]) rfl ?_
          show Steps p.tables e below (T35.setTop (mkF m 134 #[.val (.int p1), .val (.int p2), .val (.int p3), .val (.ref b1), .val (.ref b10), .val (.int (p3 &&& (3 : Int32))), .val (.ref r35), .val (.int (0 : Int32))] [])) _
          refine XS.goto X35.here hx rfl (pc0 := 134) (pc' := 143) rfl (hb hby at_134) (by decide) (by decide) ?_
          show Steps p.tables e below (T35.setTop (mkF m 143 #[.val (.int p1), .val (.int p2), .val (.int p3), .val (.ref b1), .val (.ref b10), .val (.int (p3 &&& (3 : Int32))), .val (.ref r35), .val (.int (0 : Int32))] [])) _
          refine XS.aloadN X35.here hx rfl (hb hby at_143) rfl rfl ?_
          show Steps p.tables e below (T35.setTop (mkF m 144 #[.val (.int p1), .val (.int p2), .val (.int p3), .val (.ref b1), .val (.ref b10), .val (.int (p3 &&& (3 : Int32))), .val (.ref r35), .val (.int (0 : Int32))] [(.ref b1)])) _
          refine XS.aload X35.here hx rfl (hb hby at_144) rfl rfl ?_
          show Steps p.tables e below (T35.setTop (mkF m 146 #[.val (.int p1), .val (.int p2), .val (.int p3), .val (.ref b1), .val (.ref b10), .val (.int (p3 &&& (3 : Int32))), .val (.ref r35), .val (.int (0 : Int32))] [(.ref r35), (.ref b1)])) _
          refine st37.trans ?_
          show Steps p.tables e below (T37.setTop (mkF m 149 #[.val (.int p1), .val (.int p2), .val (.int p3), .val (.ref b1), .val (.ref b10), .val (.int (p3 &&& (3 : Int32))), .val (.ref r35), .val (.int (0 : Int32))] [(.int (0 : Int32))])) _
          refine XS.iload X37.here hx rfl (hb hby at_149) rfl ?_
          show Steps p.tables e below (T37.setTop (mkF m 151 #[.val (.int p1), .val (.int p2), .val (.int p3), .val (.ref b1), .val (.ref b10), .val (.int (p3 &&& (3 : Int32))), .val (.ref r35), .val (.int (0 : Int32))] [(.int (0 : Int32)), (.int (0 : Int32))])) _
          refine XS.icmpNo X37.here hx rfl (hb hby at_151) rfl (teq (rfl : (0 : Int32) = (0 : Int32))).2 ?_
          show Steps p.tables e below (T37.setTop (mkF m 154 #[.val (.int p1), .val (.int p2), .val (.int p3), .val (.ref b1), .val (.ref b10), .val (.int (p3 &&& (3 : Int32))), .val (.ref r35), .val (.int (0 : Int32))] [])) _
          refine XS.iconst X37.here hx rfl (hb hby at_154) ?_
          show Steps p.tables e below (T37.setTop (mkF m 155 #[.val (.int p1), .val (.int p2), .val (.int p3), .val (.ref b1), .val (.ref b10), .val (.int (p3 &&& (3 : Int32))), .val (.ref r35), .val (.int (0 : Int32))] [(.int (1 : Int32))])) _
          refine XS.goto X37.here hx rfl (pc0 := 155) (pc' := 159) rfl (hb hby at_155) (by decide) (by decide) ?_
          show Steps p.tables e below (T37.setTop (mkF m 159 #[.val (.int p1), .val (.int p2), .val (.int p3), .val (.ref b1), .val (.ref b10), .val (.int (p3 &&& (3 : Int32))), .val (.ref r35), .val (.int (0 : Int32))] [(.int (1 : Int32))])) _
          exact retN X37 hx (t := .boolean) Bd.returns (by simp) (hb hby at_159) hr
        · show Q_rm0 Z p1 p2 p3 wP wI wc cl h0 n0 _ T37.heap _
          rw [e37]
          exact ⟨rfl, N37⟩
      · have f38 := ((Exa.ext E10 A9q).keep K18q)
        have f39 := ((Fld.ext E10 G9_0).keep K18q (ninS ne_b1_b10 nin0))
        have f40 := ((Fld.ext E10 G9_1).keep K18q (ninS ne_b1_b10 nin0))
        have f41 := ((Fld.ext E10 G9_2).keep K18q (ninS ne_b1_b10 nin0))
        obtain ⟨cq42, kq42, q42a, q42b, q42c⟩ := isOf hZ rfl f38
        obtain ⟨_, _, ⟨T42, L42, k42, n42⟩, -, X42, ⟨Lc42, hQ42, l42, y42, z42⟩, st42⟩ := X18.virtualBack hx (y := (⟨"com/example/payspread/payspread/model/ExcessRules", "equals", "(Ljava/lang/Object;)Z"⟩ : MethodName)) (z := (⟨"com/example/payspread/payspread/model/ExcessRules", "equals", "(Ljava/lang/Object;)Z"⟩ : MethodName)) hown (mvT hZ (hw _ (List.mem_of_getElem? (i := 31) rfl))) (mvT hZ (hw _ (List.mem_of_getElem? (i := 32) rfl))) (notFace_of_selects (args := #[]) (mvT hZ (hw _ (List.mem_of_getElem? (i := 34) rfl)))) (mvT hZ (hw _ (List.mem_of_getElem? (i := 34) rfl))) (mvT hZ (hw _ (List.mem_of_getElem? (i := 33) rfl))) (by decide) (backOf (W := 0) (rm5s l Z a0 hw [] b1 b1 (ruleW p1 wP wI) (ruleW p1 wP wI) (nar .boolean (if (p1 &&& (2 : Int32)) = (0 : Int32) then (0 : Int32) else (1 : Int32))) (nar .boolean (if (p1 &&& (2 : Int32)) = (0 : Int32) then (0 : Int32) else (1 : Int32))) (nar .boolean (if (p1 &&& (4 : Int32)) = (0 : Int32) then (0 : Int32) else (1 : Int32))) (nar .boolean (if (p1 &&& (4 : Int32)) = (0 : Int32) then (0 : Int32) else (1 : Int32))) (1 : Int32) T18.heap n0 (Nat.le_trans Z0 K18.1) f38 f39 f40 f41 f39 f40 f41 (by simp only [eqW, if_true])) hZ (hw _ (List.mem_of_getElem? (i := 35) rfl)) (hw _ (List.mem_of_getElem? (i := 2) rfl)) (by decide) (by decide)) q42a q42c (g := (mkF m 146 #[.val (.int p1), .val (.int p2), .val (.int p3), .val (.ref b1), .val (.ref b10), .val (.int (p3 &&& (3 : Int32))), .val (.ref b1), .val (.int (1 : Int32))] [(.ref b1), (.ref b1)])) rfl (by rw [hml]; rfl) (Steps.refl _) (argsL := [(.ref b1)]) (rest := []) (lenOf pd_rm0_2 rfl) rfl (by show 2 * 0 + _ ≤ _; exact Nat.le_of_eq rfl) (hb hby at_146) (fun _ _ => ⟨rfl, rfl, (by decide : 2 + 0 ≤ _), (by decide : 6 + 0 ≤ _)⟩)
        dsimp only [Pt.U, Pt.locs, Pt.cells, Pt.slots] at X42 l42 y42 z42 st42 hQ42
        subst l42 y42 z42
        obtain ⟨rfl, N42q, e42⟩ := hQ42
        have N42 := Fr.app N18 N42q
        obtain ⟨fs, hr, hrun, hended, hW, hsame⟩ := X42.leave (v := some (.int (1 : Int32))) (fun h => by rw [Bd.returns] at h; cases h)
        refine ⟨_, _, pre33 _ ?_, hrun, hended, _, _, rfl, ?_, ⟨_, rfl⟩, hW, hsame.mono (by decide) (by decide)⟩
        · show Steps p.tables e below (T18.setTop (mkF m 122 #[.val (.int p1), .val (.int p2), .val (.int p3), .val (.ref b1), .val (.ref b10), .val (.int (p3 &&& (3 : Int32))), .unset, .unset] [(.int (2 : Int32)), (.int (p3 &&& (3 : Int32)))])) _
          refine XS.icmpYes X18.here hx rfl (pc0 := 122) (pc' := 137) rfl (hb hby at_122) rfl (feq hc34).2 (by decide) (by decide) ?_
          show Steps p.tables e below (T18.setTop (mkF m 137 #[.val (.int p1), .val (.int p2), .val (.int p3), .val (.ref b1), .val (.ref b10), .val (.int (p3 &&& (3 : Int32))), .unset, .unset] [])) _
          refine XS.aloadN X18.here hx rfl (hb hby at_137) rfl rfl ?_
          show Steps p.tables e below (T18.setTop (mkF m 138 #[.val (.int p1), .val (.int p2), .val (.int p3), .val (.ref b1), .val (.ref b10), .val (.int (p3 &&& (3 : Int32))), .unset, .unset] [(.ref b1)])) _
          refine XS.astore X18.here hx rfl (hb hby at_138) rfl rfl (l' := #[.val (.int p1), .val (.int p2), .val (.int p3), .val (.ref b1), .val (.ref b10), .val (.int (p3 &&& (3 : Int32))), .val (.ref b1), .unset]) rfl ?_
          show Steps p.tables e below (T18.setTop (mkF m 140 #[.val (.int p1), .val (.int p2), .val (.int p3), .val (.ref b1), .val (.ref b10), .val (.int (p3 &&& (3 : Int32))), .val (.ref b1), .unset] [])) _
          refine XS.iconst X18.here hx rfl (hb hby at_140) ?_
          show Steps p.tables e below (T18.setTop (mkF m 141 #[.val (.int p1), .val (.int p2), .val (.int p3), .val (.ref b1), .val (.ref b10), .val (.int (p3 &&& (3 : Int32))), .val (.ref b1), .unset] [(.int (1 : Int32))])) _
          refine XS.istore X18.here hx rfl (hb hby at_141) rfl (l' := #[.val (.int p1), .val (.int p2), .val (.int p3), .val (.ref b1), .val (.ref b10), .val (.int (p3 &&& (3 : Int32))), .val (.ref b1), .val (.int (1 : Int32))]) rfl ?_
          show Steps p.tables e below (T18.setTop (mkF m 143 #[.val (.int p1), .val (.int p2), .val (.int p3), .val (.ref b1), .val (.ref b10), .val (.int (p3 &&& (3 : Int32))), .val (.ref b1), .val (.int (1 : Int32))] [])) _
          refine XS.aloadN X18.here hx rfl (hb hby at_143) rfl rfl ?_
          show Steps p.tables e below (T18.setTop (mkF m 144 #[.val (.int p1), .val (.int p2), .val (.int p3), .val (.ref b1), .val (.ref b10), .val (.int (p3 &&& (3 : Int32))), .val (.ref b1), .val (.int (1 : Int32))] [(.ref b1)])) _
          refine XS.aload X18.here hx rfl (hb hby at_144) rfl rfl ?_
          show Steps p.tables e below (T18.setTop (mkF m 146 #[.val (.int p1), .val (.int p2), .val (.int p3), .val (.ref b1), .val (.ref b10), .val (.int (p3 &&& (3 : Int32))), .val (.ref b1), .val (.int (1 : Int32))] [(.ref b1), (.ref b1)])) _
          refine st42.trans ?_
          show Steps p.tables e below (T42.setTop (mkF m 149 #[.val (.int p1), .val (.int p2), .val (.int p3), .val (.ref b1), .val (.ref b10), .val (.int (p3 &&& (3 : Int32))), .val (.ref b1), .val (.int (1 : Int32))] [(.int (1 : Int32))])) _
          refine XS.iload X42.here hx rfl (hb hby at_149) rfl ?_
          show Steps p.tables e below (T42.setTop (mkF m 151 #[.val (.int p1), .val (.int p2), .val (.int p3), .val (.ref b1), .val (.ref b10), .val (.int (p3 &&& (3 : Int32))), .val (.ref b1), .val (.int (1 : Int32))] [(.int (1 : Int32)), (.int (1 : Int32))])) _
          refine XS.icmpNo X42.here hx rfl (hb hby at_151) rfl (teq (rfl : (1 : Int32) = (1 : Int32))).2 ?_
          show Steps p.tables e below (T42.setTop (mkF m 154 #[.val (.int p1), .val (.int p2), .val (.int p3), .val (.ref b1), .val (.ref b10), .val (.int (p3 &&& (3 : Int32))), .val (.ref b1), .val (.int (1 : Int32))] [])) _
          refine XS.iconst X42.here hx rfl (hb hby at_154) ?_
          show Steps p.tables e below (T42.setTop (mkF m 155 #[.val (.int p1), .val (.int p2), .val (.int p3), .val (.ref b1), .val (.ref b10), .val (.int (p3 &&& (3 : Int32))), .val (.ref b1), .val (.int (1 : Int32))] [(.int (1 : Int32))])) _
          refine XS.goto X42.here hx rfl (pc0 := 155) (pc' := 159) rfl (hb hby at_155) (by decide) (by decide) ?_
          show Steps p.tables e below (T42.setTop (mkF m 159 #[.val (.int p1), .val (.int p2), .val (.int p3), .val (.ref b1), .val (.ref b10), .val (.int (p3 &&& (3 : Int32))), .val (.ref b1), .val (.int (1 : Int32))] [(.int (1 : Int32))])) _
          exact retN X42 hx (t := .boolean) Bd.returns (by simp) (hb hby at_159) hr
        · show Q_rm0 Z p1 p2 p3 wP wI wc cl h0 n0 _ T42.heap _
          rw [e42]
          exact ⟨rfl, N42⟩
theorem own_exa_start {args : Array Value} {s : State} {t : Term} {a : Addr} {idx : List Nat} {C : String} (ev : t.eval args s none idx s = some (.ref a)) (hx : (Cond.exactly t C).value args s none s idx = some true) : Exa s s.heap a C := by
  simp only [Cond.value, ev] at hx
  refine Exa.start (args := #[.ref a]) (t := .arg 0) rfl ?_
  simp only [Cond.value, Term.eval]
  exact hx
theorem own_notsub {Z : State} {a0 : Array Value} {A B O K : String} {n : Nat} (wk : (Cond.instantiable K n).before a0 Z = true) (w1 : (Cond.superclass A B).before a0 Z = true) (w2 : (Cond.superclass B O).before a0 Z = true) (w3 : (Cond.noSuperclass O).before a0 Z = true) (h1 : A ≠ K) (h2 : B ≠ K) (h3 : O ≠ K) : ∃ c t, Z.vm.findClass A = some c ∧ Z.vm.findClass K = some t ∧ Z.vm.assignable c t = false := by
  obtain ⟨t, kt, t1, t2, t3, t4, -⟩ := Cond.instantiable_spec wk
  obtain ⟨co, ko, o1, o2, o3, -, -⟩ := Cond.noSuperclass_spec w3
  obtain ⟨cb, b0⟩ := found_sup w2
  obtain ⟨pb, kb, kpb, b1, b2, b3, b4, -⟩ := Cond.superclass_spec b0 w2
  obtain ⟨ca, a1⟩ := found_sup w1
  obtain ⟨pa, ka, kpa, g1, g2, g3, g4, g5, -, g7⟩ := Cond.superclass_spec a1 w1
  cases o1.symm.trans b1
  cases b0.symm.trans g1
  have ne1 := ids_ne a1 t1 h1
  have ne2 := ids_ne b0 t1 h2
  have ne3 := ids_ne o1 t1 h3
  have s3 : ∀ fuel, Z.vm.isSubclassAux fuel co t = false := fun fuel => by
    cases fuel with
    | zero => rfl
    | succ f => simp [Vm.isSubclassAux, ne3, o2, o3]
  have s2 : ∀ fuel, Z.vm.isSubclassAux fuel cb t = false := fun fuel => by
    cases fuel with
    | zero => rfl
    | succ f => simp [Vm.isSubclassAux, ne2, b2, b4, s3]
  have s1 : ∀ fuel, Z.vm.isSubclassAux fuel ca t = false := fun fuel => by
    cases fuel with
    | zero => rfl
    | succ f => simp [Vm.isSubclassAux, ne1, g2, g4, s2]
  have ti : kt.isInterface = false := by
    cases hi : kt.isInterface with
    | false => rfl
    | true => simp [hi] at t4
  refine ⟨ca, t, a1, t1, ?_⟩
  show Z.vm.assignableAux (255 + 1) ca t = false
  simp [Vm.assignableAux, ne1, g2, t2, g5, t3, ti, Vm.isSubclass, s1]
set_option maxRecDepth 65536 in
set_option maxHeartbeats 40000000 in
theorem comes_1 {Post : Tables → Env → Array Value → State → Outcome → State → Prop} (hpost : ∀ tb e args s v u, (limb_1_1.after args s (.returned v) u = true ∧ limb_1_2.after args s (.returned v) u = true ∧ True) → FrameEnd s (.returned v) u (Jvm.fieldLocs frame_1_writes args s ++ Jvm.arrayLocs frame_1_arrays args s ++ Jvm.staticLocs frame_1_statics s) 16 128 → Post tb e args s (.returned v) u) :
    ArmFor flags0 classFile x code maxLocals ret World_1 tables_1 room_1 Calls_1 rest_1 Pre_1 Post := by
  intro l hfl _ _ p e ha hc hk s m args below hf hA hF happ hP
  obtain ⟨hcalls, hrest, hpre⟩ := hP
  obtain ⟨-, -, -, hnamed, -, -, -, hat⟩ := (Spec.applies_iff hf).mp happ
  obtain ⟨hg, hn⟩ := and_e (Cond.before_iff.mp (show (Jvm.Cond.and given_1 narrow_1).before args s = true from hpre))
  obtain ⟨hcount, hgs⟩ := and_e hg
  obtain ⟨hg0, hgr0⟩ := and_e hgs
  obtain ⟨hg1, hgr1⟩ := and_e hgr0
  obtain ⟨w0, w1, w2, rfl⟩ : ∃ w0 w1 w2 : Value, args = #[w0, w1, w2] := by
    have hs : args.size = 3 := by simpa [Cond.value, given_1] using hcount
    obtain ⟨L⟩ := args
    match L, hs with
    | [w0, w1, w2], _ => exact ⟨w0, w1, w2, rfl⟩
  have hw := fun d (hd : d ∈ tables_1) => atoms_spec (ws := Jvm.Cond.code x code maxLocals ret :: tables_1) hat d (List.mem_cons_of_mem _ hd)
  have hfit : Fit s := fun {y c} hc i hi => by
    obtain ⟨ha, rfl⟩ := Array.getElem?_eq_some_iff.mp hc
    have q := List.all_eq_true.mp ((Array.all_eq_true_iff_forall_mem.mp hF) _ (Array.getElem_mem ha)) i (List.mem_range.mpr hi)
    simpa [Array.getElem?_eq_getElem hi] using q
  obtain ⟨hsets, hown0⟩ := atoms_of _ (rest_1_c_eq ▸ (show rest_1_c.before _ s = true from hrest))
  have hr0 := Cond.before_iff.mp hown0
  obtain ⟨i0, ei0⟩ := is_v hg0
  obtain rfl : w0 = (.int i0) := Option.some.inj ei0
  obtain ⟨i1, ei1⟩ := is_v hg1
  obtain rfl : w1 = (.int i1) := Option.some.inj ei1
  obtain ⟨i2, ei2⟩ := is_v hgr1
  obtain rfl : w2 = (.int i2) := Option.some.inj ei2
  obtain ⟨c0, hr_0⟩ := and_e hn
  obtain ⟨c1, hr_1⟩ := and_e hr_0
  obtain ⟨c2, hr_2⟩ := and_e hr_1
  have c3 := hr_2
  obtain ⟨wP, ev_PRINCIPAL⟩ := exa_v c0
  have S_PRINCIPAL : Sta s s.heap "com/example/payspread/payspread/model/ExcessRules$ExcessRule" "PRINCIPAL" "Lcom/example/payspread/payspread/model/ExcessRules$ExcessRule;" (.ref wP) := Sta.start ev_PRINCIPAL (Or.inr ⟨(hw _ (List.mem_of_getElem? (i := 8) rfl)), (hw _ (List.mem_of_getElem? (i := 9) rfl))⟩)
  have E_PRINCIPAL : Exa s s.heap wP "com/example/payspread/payspread/model/ExcessRules$ExcessRule" := Exa.start ev_PRINCIPAL c0
  obtain ⟨wI, ev_INSTALLMENTS⟩ := exa_v c1
  have S_INSTALLMENTS : Sta s s.heap "com/example/payspread/payspread/model/ExcessRules$ExcessRule" "INSTALLMENTS" "Lcom/example/payspread/payspread/model/ExcessRules$ExcessRule;" (.ref wI) := Sta.start ev_INSTALLMENTS (Or.inr ⟨(hw _ (List.mem_of_getElem? (i := 8) rfl)), (hw _ (List.mem_of_getElem? (i := 23) rfl))⟩)
  have E_INSTALLMENTS : Exa s s.heap wI "com/example/payspread/payspread/model/ExcessRules$ExcessRule" := Exa.start ev_INSTALLMENTS c1
  have O_PRINCIPAL : Fld s s.heap wP "java/lang/Enum" "ordinal" "I" (.int (0 : Int32)) := own_fld ev_PRINCIPAL c2
  have O_INSTALLMENTS : Fld s s.heap wI "java/lang/Enum" "ordinal" "I" (.int (1 : Int32)) := own_fld ev_INSTALLMENTS c3
  have hPI := own_ne O_PRINCIPAL O_INSTALLMENTS (by decide)
  have z3 := own_eqint (Cond.before_iff.mp (hsets _ (List.mem_of_getElem? (i := 3) rfl)))
  have S_high : Sta s s.heap "java/lang/Integer$IntegerCache" "high" "I" (.int (127 : Int32)) := Sta.start z3 (Or.inl (hsets _ (List.mem_of_getElem? (i := 1) rfl)))
  have z4 := Cond.before_iff.mp (hsets _ (List.mem_of_getElem? (i := 4) rfl))
  obtain ⟨wc, evc⟩ := arr_v z4
  have S_cache : Sta s s.heap "java/lang/Integer$IntegerCache" "cache" "[Ljava/lang/Integer;" (.ref wc) := Sta.start evc (Or.inr ⟨(hw _ (List.mem_of_getElem? (i := 29) rfl)), (hsets _ (List.mem_of_getElem? (i := 2) rfl))⟩)
  obtain ⟨cl, Ar⟩ := Arr.start evc z4
  obtain ⟨hS, -, hz⟩ := own_len evc Ar (Cond.before_iff.mp (hsets _ (List.mem_of_getElem? (i := 6) rfl)))
  have z7 := Cond.before_iff.mp (hsets _ (List.mem_of_getElem? (i := 7) rfl))
  have evc' : ∀ idx, (Term.static "java/lang/Integer$IntegerCache" "cache" "[Ljava/lang/Integer;").eval #[.int i0, .int i1, .int i2] s none idx s = some (.ref wc) := fun idx => by simpa [Term.eval] using evc
  have hcache : ∀ j : Int32, ¬ j < 0 → j < 256 → ∃ a : Addr, cl.slots[j.toNatClampNeg]? = some (.ref a) ∧ Exa s s.heap a "java/lang/Integer" := by
    intro j h0 h1
    have hb := back32 h0
    have hlt : j.toNatClampNeg < cl.slots.size := by
      rw [hS]
      rw [Int32.lt_iff_toInt_lt] at h0 h1
      have e4 : (256 : Int32).toInt = 256 := rfl
      have e5 : (0 : Int32).toInt = 0 := rfl
      show j.toInt.toNat < 256
      omega
    have q := Cond.all_elim evc (own_at Ar) z7 j.toNatClampNeg hlt
    obtain ⟨q1, -⟩ := and_e q
    obtain ⟨a, ea⟩ := exa_v q1
    have e2 := ea
    rw [elem_f (j := j.toNatClampNeg.toInt32) (evc' _) rfl (own_at Ar) (by rw [hb.1]; exact h0), hb.1] at e2
    exact ⟨a, e2, own_exa_start ea q1⟩
  have hno := own_notsub (K := "com/example/payspread/payspread/model/ExcessRules") (n := 3) (hw _ (List.mem_of_getElem? (i := 1) rfl)) (hw _ (List.mem_of_getElem? (i := 37) rfl)) (hw _ (List.mem_of_getElem? (i := 38) rfl)) (hw _ (List.mem_of_getElem? (i := 39) rfl)) (by decide) (by decide) (by decide)
  obtain ⟨n, o, h1, h2, h3, _, L, rfl, ⟨rfl, N⟩, hq⟩ := rm0 l s _ hw tables_1 i0 i1 i2 wP wI wc cl s.heap s.heap.size (Nat.le_refl _) S_PRINCIPAL S_INSTALLMENTS S_high S_cache Ar hS hcache hPI hno p e ha hc hk s m _ below hf ((Spec.applies_iff_loose hf).mp happ).1 ⟨rfl, State.Warmed39.refl s, rfl⟩ trivial
  refine ⟨n, _, h1, h2, h3, hpost _ _ _ _ _ _ ⟨Cond.after_iff.mpr rfl, Cond.after_iff.mpr (eq_i res_at (Term.int_eval (1)) rfl), trivial⟩ ⟨hq.1, hq.2.1, (hq.2.2.sift fun y hy => Or.inr (N y hy)).mono (by decide) (by decide)⟩⟩
theorem main_1_1 : Claimed_1_1 := comes_1 fun _ _ _ _ _ _ h hF => ⟨h.1, hF⟩
theorem main_1_2 : Claimed_1_2 := comes_1 fun _ _ _ _ _ _ h hF => ⟨h.2.1, hF⟩
end Jvm.Pilot.@@N@@
namespace Jvm.Pilot.@@N@@
open Jvm Jvm.ClassFile Sem Op Lib Jvm.Free Jvm.Stand Jvm.Pilot.@@N@@.Jvm.D
/-! MADE BY PROGRAM (witnessworld.py) out of the Statement's table words and the real class files: 18 classes; the members and pool entries that the words name. The judged class is class 1, her method 2. -/
namespace start1
open Jvm.ClassFile
def u (s : String) : CpInfo := .utf8 (stringToUtf16 s)
/-- a pool by its gaps: so many unusable entries, then the entry; so many at the end -/
def gap : Nat → List CpInfo → List CpInfo
  | 0, r => r
  | n + 1, r => .unusable :: gap n r
def poolList (es : List (Nat × CpInfo)) (last : Nat) : List CpInfo := es.foldr (fun e r => gap e.1 (e.2 :: r)) (gap last [])
def pool (es : List (Nat × CpInfo)) (last : Nat) : Array CpInfo := ⟨poolList es last⟩
def fileOf (pool : Array CpInfo) (this : Nat) (attrs : Array Attribute := #[]) (ms : Array MethodInfo := #[]) (fl : Nat := 33) (sup : Nat := 0) (ifs : Array Nat := #[]) (fds : Array FieldInfo := #[]) : ClassFile where
  minorVersion := 0
  majorVersion := 65
  constantPool := pool
  accessFlags := fl
  thisClass := this
  superClass := sup
  interfaces := ifs
  fields := fds
  methods := ms
  attributes := attrs
def plain (name : String) (sup : Option ClassId) : Class where
  name := name
  kind := .ordinary
  loader := none
  accessFlags := 33
  super := sup
  interfaces := #[]
  cf := none
  fields := #[]
  methods := #[]
  instanceTypes := #[]
  staticTypes := #[]
  resolved := #[]
  callSites := []
  init := .initialized
  statics := none
  mirror := none

def pool0 : Array CpInfo := pool [(5, u "<init>"), (0, u "()V"), (1, .class_ 10), (1, u "java/lang/Object")] 113

def k0c0 : Code := { maxStack := 0, maxLocals := 1, code := object_method_1_code, exceptionTable := #[], attributes := #[] }
def k0m0 : Method := { name := "<init>", desc := "()V", sig := { parameters := [], returnType := none }, accessFlags := 1, code := some k0c0 }
/-- java/lang/Object -/
def k0 : Class := { plain "java/lang/Object" none with
  accessFlags := 33
  interfaces := #[]
  cf := some (fileOf pool0 8 #[] #[{ accessFlags := 1, nameIndex := 5, descriptorIndex := 6, attributes := #[] }] 33 0 #[] #[])
  fields := #[]
  methods := #[k0m0]
  instanceTypes := #[]
  staticTypes := #[]
  resolved := Array.replicate 124 none
  statics := none }

def pool1 : Array CpInfo := pool [(2, .class_ 4), (1, u "java/lang/Object"), (0, u "<init>"), (0, u "()V"), (0, .fieldref 8 9), (0, .class_ 10), (0, .nameAndType 11 12), (0, u "com/example/payspread/payspread/model/ExcessRules$ExcessRule"), (0, u "INSTALLMENTS"), (0, u "Lcom/example/payspread/payspread/model/ExcessRules$ExcessRule;"), (0, .fieldref 8 14), (0, .nameAndType 15 12), (0, u "PRINCIPAL"), (0, .class_ 17), (0, u "com/example/payspread/payspread/model/ExcessRules"), (0, .methodref 19 20), (0, .class_ 21), (0, .nameAndType 22 23), (0, u "com/example/payspread/payspread/model/ExcessRulesEqualsPinLaw"), (0, u "rule"), (0, u "(I)Lcom/example/payspread/payspread/model/ExcessRules$ExcessRule;"), (0, .methodref 16 25), (0, .nameAndType 5 26), (0, u "(Lcom/example/payspread/payspread/model/ExcessRules$ExcessRule;ZZ)V"), (0, .methodref 28 29), (0, .class_ 30), (0, .nameAndType 31 32), (0, u "java/lang/Integer"), (0, u "valueOf"), (0, u "(I)Ljava/lang/Integer;"), (0, .methodref 16 34), (0, .nameAndType 35 36), (0, u "equals"), (0, u "(Ljava/lang/Object;)Z"), (3, u "law"), (0, u "(III)Z")] 4

def k1m0 : Method := { name := "<init>", desc := "()V", sig := { parameters := [], returnType := none }, accessFlags := 1, code := none }
def k1c1 : Code := { maxStack := 2, maxLocals := 1, code := method_2_code, exceptionTable := #[], attributes := #[] }
def k1m1 : Method := { name := "rule", desc := "(I)Lcom/example/payspread/payspread/model/ExcessRules$ExcessRule;", sig := { parameters := [.int], returnType := some (.object "com/example/payspread/payspread/model/ExcessRules$ExcessRule") }, accessFlags := 10, code := some k1c1 }
def k1c2 : Code := { maxStack := 6, maxLocals := 8, code := code, exceptionTable := #[], attributes := #[] }
def k1m2 : Method := { name := "law", desc := "(III)Z", sig := { parameters := [.int, .int, .int], returnType := some .boolean }, accessFlags := 9, code := some k1c2 }
/-- com/example/payspread/payspread/model/ExcessRulesEqualsPinLaw -/
def k1 : Class := { plain "com/example/payspread/payspread/model/ExcessRulesEqualsPinLaw" (some 0) with
  accessFlags := 49
  interfaces := #[]
  cf := some (fileOf pool1 19 #[] #[{ accessFlags := 1, nameIndex := 5, descriptorIndex := 6, attributes := #[] }, { accessFlags := 10, nameIndex := 22, descriptorIndex := 23, attributes := #[] }, { accessFlags := 9, nameIndex := 40, descriptorIndex := 41, attributes := #[] }] 49 2 #[] #[])
  fields := #[]
  methods := #[k1m0, k1m1, k1m2]
  instanceTypes := #[]
  staticTypes := #[]
  resolved := Array.replicate 46 none
  statics := none }

def pool2 : Array CpInfo := pool [(2, .class_ 4), (1, u "com/example/payspread/payspread/model/ExcessRules"), (0, u "<init>"), (0, u "(Lcom/example/payspread/payspread/model/ExcessRules$ExcessRule;ZZ)V"), (0, .methodref 8 9), (0, .class_ 10), (0, .nameAndType 5 11), (0, u "java/lang/Object"), (0, u "()V"), (0, .fieldref 2 13), (0, .nameAndType 14 15), (0, u "excessRule"), (0, u "Lcom/example/payspread/payspread/model/ExcessRules$ExcessRule;"), (0, .fieldref 2 17), (0, .nameAndType 18 19), (0, u "wholeInstallmentsFirst"), (0, u "Z"), (0, .fieldref 2 21), (0, .nameAndType 22 19), (0, u "autoPayoff"), (17, u "equals"), (0, u "(Ljava/lang/Object;)Z"), (6, .class_ 49), (0, u "com/example/payspread/payspread/model/ExcessRules$ExcessRule")] 2

def k2c0 : Code := { maxStack := 2, maxLocals := 4, code := prog_34_method_2_code, exceptionTable := #[], attributes := #[] }
def k2m0 : Method := { name := "<init>", desc := "(Lcom/example/payspread/payspread/model/ExcessRules$ExcessRule;ZZ)V", sig := { parameters := [(.object "com/example/payspread/payspread/model/ExcessRules$ExcessRule"), .boolean, .boolean], returnType := none }, accessFlags := 1, code := some k2c0 }
def k2c1 : Code := { maxStack := 2, maxLocals := 3, code := prog_34_method_6_code, exceptionTable := #[], attributes := #[] }
def k2m1 : Method := { name := "equals", desc := "(Ljava/lang/Object;)Z", sig := { parameters := [(.object "java/lang/Object")], returnType := some .boolean }, accessFlags := 1, code := some k2c1 }
/-- com/example/payspread/payspread/model/ExcessRules -/
def k2 : Class := { plain "com/example/payspread/payspread/model/ExcessRules" (some 0) with
  accessFlags := 49
  interfaces := #[]
  cf := some (fileOf pool2 2 #[.nestMembers #[48]] #[{ accessFlags := 1, nameIndex := 5, descriptorIndex := 6, attributes := #[] }, { accessFlags := 1, nameIndex := 40, descriptorIndex := 41, attributes := #[] }] 49 8 #[] #[{ accessFlags := 18, nameIndex := 14, descriptorIndex := 15, attributes := #[] }, { accessFlags := 18, nameIndex := 18, descriptorIndex := 19, attributes := #[] }, { accessFlags := 18, nameIndex := 22, descriptorIndex := 19, attributes := #[] }])
  fields := #[{ name := "excessRule", type := (.object "com/example/payspread/payspread/model/ExcessRules$ExcessRule"), accessFlags := 18, slot := 0, constantValue := 0 }, { name := "wholeInstallmentsFirst", type := .boolean, accessFlags := 18, slot := 1, constantValue := 0 }, { name := "autoPayoff", type := .boolean, accessFlags := 18, slot := 2, constantValue := 0 }]
  methods := #[k2m0, k2m1]
  instanceTypes := #[(.object "com/example/payspread/payspread/model/ExcessRules$ExcessRule"), .boolean, .boolean]
  staticTypes := #[]
  resolved := Array.replicate 52 none
  statics := none }

def pool3 : Array CpInfo := pool [(1, .class_ 2), (0, u "java/lang/constant/Constable"), (0, .class_ 4), (0, u "java/lang/Object")] 6

/-- java/lang/constant/Constable -/
def k3 : Class := { plain "java/lang/constant/Constable" (some 0) with
  accessFlags := 1537
  interfaces := #[]
  cf := some (fileOf pool3 1 #[] #[] 1537 3 #[] #[])
  fields := #[]
  methods := #[]
  instanceTypes := #[]
  staticTypes := #[]
  resolved := Array.replicate 11 none
  statics := none }

def pool4 : Array CpInfo := pool [(1, .class_ 2), (0, u "java/lang/Comparable"), (0, .class_ 4), (0, u "java/lang/Object")] 7

/-- java/lang/Comparable -/
def k4 : Class := { plain "java/lang/Comparable" (some 0) with
  accessFlags := 1537
  interfaces := #[]
  cf := some (fileOf pool4 1 #[] #[] 1537 3 #[] #[])
  fields := #[]
  methods := #[]
  instanceTypes := #[]
  staticTypes := #[]
  resolved := Array.replicate 12 none
  statics := none }

def pool5 : Array CpInfo := pool [(1, .class_ 2), (0, u "java/io/Serializable"), (0, .class_ 4), (0, u "java/lang/Object")] 2

/-- java/io/Serializable -/
def k5 : Class := { plain "java/io/Serializable" (some 0) with
  accessFlags := 1537
  interfaces := #[]
  cf := some (fileOf pool5 1 #[] #[] 1537 3 #[] #[])
  fields := #[]
  methods := #[]
  instanceTypes := #[]
  staticTypes := #[]
  resolved := Array.replicate 7 none
  statics := none }

def pool6 : Array CpInfo := pool [(2, .class_ 4), (1, u "java/lang/Enum"), (0, u "name"), (0, u "Ljava/lang/String;"), (2, u "ordinal"), (0, u "I"), (1, .class_ 14), (1, u "java/lang/Object"), (4, u "hash"), (86, .class_ 108), (1, u "java/lang/Enum$EnumDesc"), (2, .class_ 112), (0, u "java/lang/constant/Constable"), (0, .class_ 114), (0, u "java/lang/Comparable"), (0, .class_ 116), (0, u "java/io/Serializable")] 87

/-- java/lang/Enum -/
def k6 : Class := { plain "java/lang/Enum" (some 0) with
  accessFlags := 1057
  interfaces := #[3, 4, 5]
  cf := some (fileOf pool6 2 #[.nestMembers #[106]] #[] 1057 12 #[111, 113, 115] #[{ accessFlags := 18, nameIndex := 5, descriptorIndex := 6, attributes := #[] }, { accessFlags := 18, nameIndex := 9, descriptorIndex := 10, attributes := #[] }, { accessFlags := 2, nameIndex := 19, descriptorIndex := 10, attributes := #[] }])
  fields := #[{ name := "name", type := (.object "java/lang/String"), accessFlags := 18, slot := 0, constantValue := 0 }, { name := "ordinal", type := .int, accessFlags := 18, slot := 1, constantValue := 0 }, { name := "hash", type := .int, accessFlags := 2, slot := 2, constantValue := 0 }]
  methods := #[]
  instanceTypes := #[(.object "java/lang/String"), .int, .int]
  staticTypes := #[]
  resolved := Array.replicate 204 none
  statics := none }

def pool7 : Array CpInfo := pool [(1, .class_ 2), (0, u "com/example/payspread/payspread/model/ExcessRules$ExcessRule"), (2, u "PRINCIPAL"), (0, u "Lcom/example/payspread/payspread/model/ExcessRules$ExcessRule;"), (2, u "INSTALLMENTS"), (2, u "$VALUES"), (0, u "[Lcom/example/payspread/payspread/model/ExcessRules$ExcessRule;"), (6, .class_ 22), (1, u "java/lang/Enum"), (25, .class_ 49), (0, u "com/example/payspread/payspread/model/ExcessRules")] 2

/-- com/example/payspread/payspread/model/ExcessRules$ExcessRule -/
def k7 : Class := { plain "com/example/payspread/payspread/model/ExcessRules$ExcessRule" (some 6) with
  accessFlags := 16433
  interfaces := #[]
  cf := some (fileOf pool7 1 #[.nestHost 48] #[] 16433 20 #[] #[{ accessFlags := 16409, nameIndex := 5, descriptorIndex := 6, attributes := #[] }, { accessFlags := 16409, nameIndex := 9, descriptorIndex := 6, attributes := #[] }, { accessFlags := 4122, nameIndex := 12, descriptorIndex := 13, attributes := #[] }])
  fields := #[{ name := "PRINCIPAL", type := (.object "com/example/payspread/payspread/model/ExcessRules$ExcessRule"), accessFlags := 16409, slot := 0, constantValue := 0 }, { name := "INSTALLMENTS", type := (.object "com/example/payspread/payspread/model/ExcessRules$ExcessRule"), accessFlags := 16409, slot := 1, constantValue := 0 }, { name := "$VALUES", type := (.array (.object "com/example/payspread/payspread/model/ExcessRules$ExcessRule")), accessFlags := 4122, slot := 2, constantValue := 0 }]
  methods := #[]
  instanceTypes := #[(.object "java/lang/String"), .int, .int]
  staticTypes := #[(.object "com/example/payspread/payspread/model/ExcessRules$ExcessRule"), (.object "com/example/payspread/payspread/model/ExcessRules$ExcessRule"), (.array (.object "com/example/payspread/payspread/model/ExcessRules$ExcessRule"))]
  resolved := Array.replicate 52 none
  statics := some 0 }

def pool8 : Array CpInfo := pool [(1, .methodref 2 3), (0, .class_ 4), (0, .nameAndType 5 6), (0, u "java/lang/Object"), (0, u "<init>"), (0, u "()V"), (1, .class_ 10), (1, u "java/lang/Number"), (2, .class_ 14), (0, u "java/io/Serializable"), (0, u "serialVersionUID"), (0, u "J")] 20

def k8c0 : Code := { maxStack := 1, maxLocals := 1, code := jdk_18_method_1_code, exceptionTable := #[], attributes := #[] }
def k8m0 : Method := { name := "<init>", desc := "()V", sig := { parameters := [], returnType := none }, accessFlags := 1, code := some k8c0 }
/-- java/lang/Number -/
def k8 : Class := { plain "java/lang/Number" (some 0) with
  accessFlags := 1057
  interfaces := #[5]
  cf := some (fileOf pool8 8 #[] #[{ accessFlags := 1, nameIndex := 5, descriptorIndex := 6, attributes := #[] }] 1057 2 #[13] #[{ accessFlags := 26, nameIndex := 15, descriptorIndex := 16, attributes := #[] }])
  fields := #[{ name := "serialVersionUID", type := .long, accessFlags := 26, slot := 0, constantValue := 0 }]
  methods := #[k8m0]
  instanceTypes := #[]
  staticTypes := #[.long]
  resolved := Array.replicate 37 none
  statics := none }

def pool9 : Array CpInfo := pool [(1, .class_ 2), (0, u "java/lang/constant/ConstantDesc"), (0, .class_ 4), (0, u "java/lang/Object")] 32

/-- java/lang/constant/ConstantDesc -/
def k9 : Class := { plain "java/lang/constant/ConstantDesc" (some 0) with
  accessFlags := 1537
  interfaces := #[]
  cf := some (fileOf pool9 1 #[] #[] 1537 3 #[] #[])
  fields := #[]
  methods := #[]
  instanceTypes := #[]
  staticTypes := #[]
  resolved := Array.replicate 37 none
  statics := none }

def pool10 : Array CpInfo := pool [(1, .class_ 2), (0, u "java/lang/Integer"), (16, u "digits"), (0, u "[C"), (46, u "<init>"), (17, u "DigitOnes"), (0, u "[B"), (2, u "DigitTens"), (10, .nameAndType 67 101), (0, u "()V"), (85, u "valueOf"), (0, u "(I)Ljava/lang/Integer;"), (0, .class_ 190), (0, u "java/lang/Integer$IntegerCache"), (0, .fieldref 189 192), (0, .nameAndType 193 194), (0, u "high"), (0, u "I"), (0, .fieldref 189 196), (0, .nameAndType 197 198), (0, u "cache"), (0, u "[Ljava/lang/Integer;"), (0, .methodref 1 200), (0, .nameAndType 67 201), (0, u "(I)V"), (0, .methodref 203 100), (0, .class_ 204), (0, u "java/lang/Number"), (0, .fieldref 1 206), (0, .nameAndType 207 194), (0, u "value"), (94, u "TYPE"), (0, u "Ljava/lang/Class;"), (0, .class_ 305), (0, u "java/lang/Comparable"), (0, .class_ 307), (0, u "java/lang/constant/Constable"), (0, .class_ 309), (0, u "java/lang/constant/ConstantDesc"), (0, u "MIN_VALUE"), (1, u "MAX_VALUE"), (3, u "SIZE"), (1, u "BYTES"), (1, u "serialVersionUID"), (0, u "J")] 131

def k10c0 : Code := { maxStack := 3, maxLocals := 1, code := jdk_33_method_22_code, exceptionTable := #[], attributes := #[] }
def k10m0 : Method := { name := "valueOf", desc := "(I)Ljava/lang/Integer;", sig := { parameters := [.int], returnType := some (.object "java/lang/Integer") }, accessFlags := 9, code := some k10c0 }
def k10c1 : Code := { maxStack := 2, maxLocals := 2, code := jdk_33_method_23_code, exceptionTable := #[], attributes := #[] }
def k10m1 : Method := { name := "<init>", desc := "(I)V", sig := { parameters := [.int], returnType := none }, accessFlags := 1, code := some k10c1 }
/-- java/lang/Integer -/
def k10 : Class := { plain "java/lang/Integer" (some 8) with
  accessFlags := 49
  interfaces := #[4, 3, 9]
  cf := some (fileOf pool10 1 #[.nestMembers #[189]] #[{ accessFlags := 9, nameIndex := 187, descriptorIndex := 188, attributes := #[] }, { accessFlags := 1, nameIndex := 67, descriptorIndex := 201, attributes := #[] }] 49 203 #[304, 306, 308] #[{ accessFlags := 25, nameIndex := 310, descriptorIndex := 194, attributes := #[] }, { accessFlags := 25, nameIndex := 312, descriptorIndex := 194, attributes := #[] }, { accessFlags := 25, nameIndex := 302, descriptorIndex := 303, attributes := #[] }, { accessFlags := 24, nameIndex := 19, descriptorIndex := 20, attributes := #[] }, { accessFlags := 24, nameIndex := 89, descriptorIndex := 86, attributes := #[] }, { accessFlags := 24, nameIndex := 85, descriptorIndex := 86, attributes := #[] }, { accessFlags := 18, nameIndex := 207, descriptorIndex := 194, attributes := #[] }, { accessFlags := 25, nameIndex := 316, descriptorIndex := 194, attributes := #[] }, { accessFlags := 25, nameIndex := 318, descriptorIndex := 194, attributes := #[] }, { accessFlags := 26, nameIndex := 320, descriptorIndex := 321, attributes := #[] }])
  fields := #[{ name := "MIN_VALUE", type := .int, accessFlags := 25, slot := 0, constantValue := 0 }, { name := "MAX_VALUE", type := .int, accessFlags := 25, slot := 1, constantValue := 0 }, { name := "TYPE", type := (.object "java/lang/Class"), accessFlags := 25, slot := 2, constantValue := 0 }, { name := "digits", type := (.array .char), accessFlags := 24, slot := 3, constantValue := 0 }, { name := "DigitTens", type := (.array .byte), accessFlags := 24, slot := 4, constantValue := 0 }, { name := "DigitOnes", type := (.array .byte), accessFlags := 24, slot := 5, constantValue := 0 }, { name := "value", type := .int, accessFlags := 18, slot := 0, constantValue := 0 }, { name := "SIZE", type := .int, accessFlags := 25, slot := 6, constantValue := 0 }, { name := "BYTES", type := .int, accessFlags := 25, slot := 7, constantValue := 0 }, { name := "serialVersionUID", type := .long, accessFlags := 26, slot := 8, constantValue := 0 }]
  methods := #[k10m0, k10m1]
  instanceTypes := #[.int]
  staticTypes := #[.int, .int, (.object "java/lang/Class"), (.array .char), (.array .byte), (.array .byte), .int, .int, .long]
  resolved := Array.replicate 453 none
  statics := none }

def pool11 : Array CpInfo := pool [(2, .class_ 4), (1, u "java/lang/Object"), (0, u "<init>"), (0, u "()V"), (0, .class_ 8), (0, u "java/lang/Integer"), (7, .class_ 18), (1, u "java/lang/Integer$IntegerCache"), (0, u "$assertionsDisabled"), (0, u "Z"), (26, u "high"), (0, u "I"), (8, u "archivedCache"), (0, u "[Ljava/lang/Integer;"), (12, u "cache"), (0, u "low")] 27

def k11m0 : Method := { name := "<init>", desc := "()V", sig := { parameters := [], returnType := none }, accessFlags := 2, code := none }
/-- java/lang/Integer$IntegerCache -/
def k11 : Class := { plain "java/lang/Integer$IntegerCache" (some 0) with
  accessFlags := 48
  interfaces := #[]
  cf := some (fileOf pool11 16 #[.nestHost 7] #[{ accessFlags := 2, nameIndex := 5, descriptorIndex := 6, attributes := #[] }] 48 2 #[] #[{ accessFlags := 24, nameIndex := 72, descriptorIndex := 48, attributes := #[] }, { accessFlags := 24, nameIndex := 47, descriptorIndex := 48, attributes := #[] }, { accessFlags := 24, nameIndex := 71, descriptorIndex := 58, attributes := #[] }, { accessFlags := 8, nameIndex := 57, descriptorIndex := 58, attributes := #[] }, { accessFlags := 4120, nameIndex := 19, descriptorIndex := 20, attributes := #[] }])
  fields := #[{ name := "low", type := .int, accessFlags := 24, slot := 0, constantValue := 0 }, { name := "high", type := .int, accessFlags := 24, slot := 1, constantValue := 0 }, { name := "cache", type := (.array (.object "java/lang/Integer")), accessFlags := 24, slot := 2, constantValue := 0 }, { name := "archivedCache", type := (.array (.object "java/lang/Integer")), accessFlags := 8, slot := 3, constantValue := 0 }, { name := "$assertionsDisabled", type := .boolean, accessFlags := 4120, slot := 4, constantValue := 0 }]
  methods := #[k11m0]
  instanceTypes := #[]
  staticTypes := #[.int, .int, (.array (.object "java/lang/Integer")), (.array (.object "java/lang/Integer")), .boolean]
  resolved := Array.replicate 100 none
  statics := some 1 }

def pool12 : Array CpInfo := pool [(1, u "java/lang/Cloneable"), (0, .class_ 1), (0, u "java/lang/Object"), (0, .class_ 3)] 3

/-- java/lang/Cloneable -/
def k12 : Class := { plain "java/lang/Cloneable" (some 0) with
  accessFlags := 1537
  interfaces := #[]
  cf := some (fileOf pool12 2 #[] #[] 1537 4 #[] #[])
  fields := #[]
  methods := #[]
  instanceTypes := #[]
  staticTypes := #[]
  resolved := Array.replicate 8 none
  statics := none }

/-- the primitive byte -/
def k13 : Class := { plain "byte" none with kind := .primitive 'B', accessFlags := 0x411 }
/-- [B -/
def k14 : Class := { plain "[B" (some 0) with kind := .array 13 .byte, interfaces := #[12, 5], accessFlags := 1041 }

/-- the primitive int -/
def k15 : Class := { plain "int" none with kind := .primitive 'I', accessFlags := 0x411 }
/-- [I -/
def k16 : Class := { plain "[I" (some 0) with kind := .array 15 .int, interfaces := #[12, 5], accessFlags := 1041 }

/-- [Ljava/lang/Integer; -/
def k17 : Class := { plain "[Ljava/lang/Integer;" (some 0) with kind := .array 10 (.object "java/lang/Integer"), interfaces := #[12, 5], accessFlags := 1041 }

def heap : Heap := #[{ cls := 7, slots := #[.ref 259, .ref 260, .null], vm := .statics 7 },
  { cls := 11, slots := #[.int 0, .int 127, .ref 2, .null, .int 0], vm := .statics 11 },
  { cls := 17, slots := #[.ref 3, .ref 4, .ref 5, .ref 6, .ref 7, .ref 8, .ref 9, .ref 10, .ref 11, .ref 12, .ref 13, .ref 14, .ref 15, .ref 16, .ref 17, .ref 18, .ref 19, .ref 20, .ref 21, .ref 22, .ref 23, .ref 24, .ref 25, .ref 26, .ref 27, .ref 28, .ref 29, .ref 30, .ref 31, .ref 32, .ref 33, .ref 34, .ref 35, .ref 36, .ref 37, .ref 38, .ref 39, .ref 40, .ref 41, .ref 42, .ref 43, .ref 44, .ref 45, .ref 46, .ref 47, .ref 48, .ref 49, .ref 50, .ref 51, .ref 52, .ref 53, .ref 54, .ref 55, .ref 56, .ref 57, .ref 58, .ref 59, .ref 60, .ref 61, .ref 62, .ref 63, .ref 64, .ref 65, .ref 66, .ref 67, .ref 68, .ref 69, .ref 70, .ref 71, .ref 72, .ref 73, .ref 74, .ref 75, .ref 76, .ref 77, .ref 78, .ref 79, .ref 80, .ref 81, .ref 82, .ref 83, .ref 84, .ref 85, .ref 86, .ref 87, .ref 88, .ref 89, .ref 90, .ref 91, .ref 92, .ref 93, .ref 94, .ref 95, .ref 96, .ref 97, .ref 98, .ref 99, .ref 100, .ref 101, .ref 102, .ref 103, .ref 104, .ref 105, .ref 106, .ref 107, .ref 108, .ref 109, .ref 110, .ref 111, .ref 112, .ref 113, .ref 114, .ref 115, .ref 116, .ref 117, .ref 118, .ref 119, .ref 120, .ref 121, .ref 122, .ref 123, .ref 124, .ref 125, .ref 126, .ref 127, .ref 128, .ref 129, .ref 130, .ref 131, .ref 132, .ref 133, .ref 134, .ref 135, .ref 136, .ref 137, .ref 138, .ref 139, .ref 140, .ref 141, .ref 142, .ref 143, .ref 144, .ref 145, .ref 146, .ref 147, .ref 148, .ref 149, .ref 150, .ref 151, .ref 152, .ref 153, .ref 154, .ref 155, .ref 156, .ref 157, .ref 158, .ref 159, .ref 160, .ref 161, .ref 162, .ref 163, .ref 164, .ref 165, .ref 166, .ref 167, .ref 168, .ref 169, .ref 170, .ref 171, .ref 172, .ref 173, .ref 174, .ref 175, .ref 176, .ref 177, .ref 178, .ref 179, .ref 180, .ref 181, .ref 182, .ref 183, .ref 184, .ref 185, .ref 186, .ref 187, .ref 188, .ref 189, .ref 190, .ref 191, .ref 192, .ref 193, .ref 194, .ref 195, .ref 196, .ref 197, .ref 198, .ref 199, .ref 200, .ref 201, .ref 202, .ref 203, .ref 204, .ref 205, .ref 206, .ref 207, .ref 208, .ref 209, .ref 210, .ref 211, .ref 212, .ref 213, .ref 214, .ref 215, .ref 216, .ref 217, .ref 218, .ref 219, .ref 220, .ref 221, .ref 222, .ref 223, .ref 224, .ref 225, .ref 226, .ref 227, .ref 228, .ref 229, .ref 230, .ref 231, .ref 232, .ref 233, .ref 234, .ref 235, .ref 236, .ref 237, .ref 238, .ref 239, .ref 240, .ref 241, .ref 242, .ref 243, .ref 244, .ref 245, .ref 246, .ref 247, .ref 248, .ref 249, .ref 250, .ref 251, .ref 252, .ref 253, .ref 254, .ref 255, .ref 256, .ref 257, .ref 258], vm := .none },
  { cls := 10, slots := #[.int (-128)], vm := .none },
  { cls := 10, slots := #[.int (-127)], vm := .none },
  { cls := 10, slots := #[.int (-126)], vm := .none },
  { cls := 10, slots := #[.int (-125)], vm := .none },
  { cls := 10, slots := #[.int (-124)], vm := .none },
  { cls := 10, slots := #[.int (-123)], vm := .none },
  { cls := 10, slots := #[.int (-122)], vm := .none },
  { cls := 10, slots := #[.int (-121)], vm := .none },
  { cls := 10, slots := #[.int (-120)], vm := .none },
  { cls := 10, slots := #[.int (-119)], vm := .none },
  { cls := 10, slots := #[.int (-118)], vm := .none },
  { cls := 10, slots := #[.int (-117)], vm := .none },
  { cls := 10, slots := #[.int (-116)], vm := .none },
  { cls := 10, slots := #[.int (-115)], vm := .none },
  { cls := 10, slots := #[.int (-114)], vm := .none },
  { cls := 10, slots := #[.int (-113)], vm := .none },
  { cls := 10, slots := #[.int (-112)], vm := .none },
  { cls := 10, slots := #[.int (-111)], vm := .none },
  { cls := 10, slots := #[.int (-110)], vm := .none },
  { cls := 10, slots := #[.int (-109)], vm := .none },
  { cls := 10, slots := #[.int (-108)], vm := .none },
  { cls := 10, slots := #[.int (-107)], vm := .none },
  { cls := 10, slots := #[.int (-106)], vm := .none },
  { cls := 10, slots := #[.int (-105)], vm := .none },
  { cls := 10, slots := #[.int (-104)], vm := .none },
  { cls := 10, slots := #[.int (-103)], vm := .none },
  { cls := 10, slots := #[.int (-102)], vm := .none },
  { cls := 10, slots := #[.int (-101)], vm := .none },
  { cls := 10, slots := #[.int (-100)], vm := .none },
  { cls := 10, slots := #[.int (-99)], vm := .none },
  { cls := 10, slots := #[.int (-98)], vm := .none },
  { cls := 10, slots := #[.int (-97)], vm := .none },
  { cls := 10, slots := #[.int (-96)], vm := .none },
  { cls := 10, slots := #[.int (-95)], vm := .none },
  { cls := 10, slots := #[.int (-94)], vm := .none },
  { cls := 10, slots := #[.int (-93)], vm := .none },
  { cls := 10, slots := #[.int (-92)], vm := .none },
  { cls := 10, slots := #[.int (-91)], vm := .none },
  { cls := 10, slots := #[.int (-90)], vm := .none },
  { cls := 10, slots := #[.int (-89)], vm := .none },
  { cls := 10, slots := #[.int (-88)], vm := .none },
  { cls := 10, slots := #[.int (-87)], vm := .none },
  { cls := 10, slots := #[.int (-86)], vm := .none },
  { cls := 10, slots := #[.int (-85)], vm := .none },
  { cls := 10, slots := #[.int (-84)], vm := .none },
  { cls := 10, slots := #[.int (-83)], vm := .none },
  { cls := 10, slots := #[.int (-82)], vm := .none },
  { cls := 10, slots := #[.int (-81)], vm := .none },
  { cls := 10, slots := #[.int (-80)], vm := .none },
  { cls := 10, slots := #[.int (-79)], vm := .none },
  { cls := 10, slots := #[.int (-78)], vm := .none },
  { cls := 10, slots := #[.int (-77)], vm := .none },
  { cls := 10, slots := #[.int (-76)], vm := .none },
  { cls := 10, slots := #[.int (-75)], vm := .none },
  { cls := 10, slots := #[.int (-74)], vm := .none },
  { cls := 10, slots := #[.int (-73)], vm := .none },
  { cls := 10, slots := #[.int (-72)], vm := .none },
  { cls := 10, slots := #[.int (-71)], vm := .none },
  { cls := 10, slots := #[.int (-70)], vm := .none },
  { cls := 10, slots := #[.int (-69)], vm := .none },
  { cls := 10, slots := #[.int (-68)], vm := .none },
  { cls := 10, slots := #[.int (-67)], vm := .none },
  { cls := 10, slots := #[.int (-66)], vm := .none },
  { cls := 10, slots := #[.int (-65)], vm := .none },
  { cls := 10, slots := #[.int (-64)], vm := .none },
  { cls := 10, slots := #[.int (-63)], vm := .none },
  { cls := 10, slots := #[.int (-62)], vm := .none },
  { cls := 10, slots := #[.int (-61)], vm := .none },
  { cls := 10, slots := #[.int (-60)], vm := .none },
  { cls := 10, slots := #[.int (-59)], vm := .none },
  { cls := 10, slots := #[.int (-58)], vm := .none },
  { cls := 10, slots := #[.int (-57)], vm := .none },
  { cls := 10, slots := #[.int (-56)], vm := .none },
  { cls := 10, slots := #[.int (-55)], vm := .none },
  { cls := 10, slots := #[.int (-54)], vm := .none },
  { cls := 10, slots := #[.int (-53)], vm := .none },
  { cls := 10, slots := #[.int (-52)], vm := .none },
  { cls := 10, slots := #[.int (-51)], vm := .none },
  { cls := 10, slots := #[.int (-50)], vm := .none },
  { cls := 10, slots := #[.int (-49)], vm := .none },
  { cls := 10, slots := #[.int (-48)], vm := .none },
  { cls := 10, slots := #[.int (-47)], vm := .none },
  { cls := 10, slots := #[.int (-46)], vm := .none },
  { cls := 10, slots := #[.int (-45)], vm := .none },
  { cls := 10, slots := #[.int (-44)], vm := .none },
  { cls := 10, slots := #[.int (-43)], vm := .none },
  { cls := 10, slots := #[.int (-42)], vm := .none },
  { cls := 10, slots := #[.int (-41)], vm := .none },
  { cls := 10, slots := #[.int (-40)], vm := .none },
  { cls := 10, slots := #[.int (-39)], vm := .none },
  { cls := 10, slots := #[.int (-38)], vm := .none },
  { cls := 10, slots := #[.int (-37)], vm := .none },
  { cls := 10, slots := #[.int (-36)], vm := .none },
  { cls := 10, slots := #[.int (-35)], vm := .none },
  { cls := 10, slots := #[.int (-34)], vm := .none },
  { cls := 10, slots := #[.int (-33)], vm := .none },
  { cls := 10, slots := #[.int (-32)], vm := .none },
  { cls := 10, slots := #[.int (-31)], vm := .none },
  { cls := 10, slots := #[.int (-30)], vm := .none },
  { cls := 10, slots := #[.int (-29)], vm := .none },
  { cls := 10, slots := #[.int (-28)], vm := .none },
  { cls := 10, slots := #[.int (-27)], vm := .none },
  { cls := 10, slots := #[.int (-26)], vm := .none },
  { cls := 10, slots := #[.int (-25)], vm := .none },
  { cls := 10, slots := #[.int (-24)], vm := .none },
  { cls := 10, slots := #[.int (-23)], vm := .none },
  { cls := 10, slots := #[.int (-22)], vm := .none },
  { cls := 10, slots := #[.int (-21)], vm := .none },
  { cls := 10, slots := #[.int (-20)], vm := .none },
  { cls := 10, slots := #[.int (-19)], vm := .none },
  { cls := 10, slots := #[.int (-18)], vm := .none },
  { cls := 10, slots := #[.int (-17)], vm := .none },
  { cls := 10, slots := #[.int (-16)], vm := .none },
  { cls := 10, slots := #[.int (-15)], vm := .none },
  { cls := 10, slots := #[.int (-14)], vm := .none },
  { cls := 10, slots := #[.int (-13)], vm := .none },
  { cls := 10, slots := #[.int (-12)], vm := .none },
  { cls := 10, slots := #[.int (-11)], vm := .none },
  { cls := 10, slots := #[.int (-10)], vm := .none },
  { cls := 10, slots := #[.int (-9)], vm := .none },
  { cls := 10, slots := #[.int (-8)], vm := .none },
  { cls := 10, slots := #[.int (-7)], vm := .none },
  { cls := 10, slots := #[.int (-6)], vm := .none },
  { cls := 10, slots := #[.int (-5)], vm := .none },
  { cls := 10, slots := #[.int (-4)], vm := .none },
  { cls := 10, slots := #[.int (-3)], vm := .none },
  { cls := 10, slots := #[.int (-2)], vm := .none },
  { cls := 10, slots := #[.int (-1)], vm := .none },
  { cls := 10, slots := #[.int 0], vm := .none },
  { cls := 10, slots := #[.int 1], vm := .none },
  { cls := 10, slots := #[.int 2], vm := .none },
  { cls := 10, slots := #[.int 3], vm := .none },
  { cls := 10, slots := #[.int 4], vm := .none },
  { cls := 10, slots := #[.int 5], vm := .none },
  { cls := 10, slots := #[.int 6], vm := .none },
  { cls := 10, slots := #[.int 7], vm := .none },
  { cls := 10, slots := #[.int 8], vm := .none },
  { cls := 10, slots := #[.int 9], vm := .none },
  { cls := 10, slots := #[.int 10], vm := .none },
  { cls := 10, slots := #[.int 11], vm := .none },
  { cls := 10, slots := #[.int 12], vm := .none },
  { cls := 10, slots := #[.int 13], vm := .none },
  { cls := 10, slots := #[.int 14], vm := .none },
  { cls := 10, slots := #[.int 15], vm := .none },
  { cls := 10, slots := #[.int 16], vm := .none },
  { cls := 10, slots := #[.int 17], vm := .none },
  { cls := 10, slots := #[.int 18], vm := .none },
  { cls := 10, slots := #[.int 19], vm := .none },
  { cls := 10, slots := #[.int 20], vm := .none },
  { cls := 10, slots := #[.int 21], vm := .none },
  { cls := 10, slots := #[.int 22], vm := .none },
  { cls := 10, slots := #[.int 23], vm := .none },
  { cls := 10, slots := #[.int 24], vm := .none },
  { cls := 10, slots := #[.int 25], vm := .none },
  { cls := 10, slots := #[.int 26], vm := .none },
  { cls := 10, slots := #[.int 27], vm := .none },
  { cls := 10, slots := #[.int 28], vm := .none },
  { cls := 10, slots := #[.int 29], vm := .none },
  { cls := 10, slots := #[.int 30], vm := .none },
  { cls := 10, slots := #[.int 31], vm := .none },
  { cls := 10, slots := #[.int 32], vm := .none },
  { cls := 10, slots := #[.int 33], vm := .none },
  { cls := 10, slots := #[.int 34], vm := .none },
  { cls := 10, slots := #[.int 35], vm := .none },
  { cls := 10, slots := #[.int 36], vm := .none },
  { cls := 10, slots := #[.int 37], vm := .none },
  { cls := 10, slots := #[.int 38], vm := .none },
  { cls := 10, slots := #[.int 39], vm := .none },
  { cls := 10, slots := #[.int 40], vm := .none },
  { cls := 10, slots := #[.int 41], vm := .none },
  { cls := 10, slots := #[.int 42], vm := .none },
  { cls := 10, slots := #[.int 43], vm := .none },
  { cls := 10, slots := #[.int 44], vm := .none },
  { cls := 10, slots := #[.int 45], vm := .none },
  { cls := 10, slots := #[.int 46], vm := .none },
  { cls := 10, slots := #[.int 47], vm := .none },
  { cls := 10, slots := #[.int 48], vm := .none },
  { cls := 10, slots := #[.int 49], vm := .none },
  { cls := 10, slots := #[.int 50], vm := .none },
  { cls := 10, slots := #[.int 51], vm := .none },
  { cls := 10, slots := #[.int 52], vm := .none },
  { cls := 10, slots := #[.int 53], vm := .none },
  { cls := 10, slots := #[.int 54], vm := .none },
  { cls := 10, slots := #[.int 55], vm := .none },
  { cls := 10, slots := #[.int 56], vm := .none },
  { cls := 10, slots := #[.int 57], vm := .none },
  { cls := 10, slots := #[.int 58], vm := .none },
  { cls := 10, slots := #[.int 59], vm := .none },
  { cls := 10, slots := #[.int 60], vm := .none },
  { cls := 10, slots := #[.int 61], vm := .none },
  { cls := 10, slots := #[.int 62], vm := .none },
  { cls := 10, slots := #[.int 63], vm := .none },
  { cls := 10, slots := #[.int 64], vm := .none },
  { cls := 10, slots := #[.int 65], vm := .none },
  { cls := 10, slots := #[.int 66], vm := .none },
  { cls := 10, slots := #[.int 67], vm := .none },
  { cls := 10, slots := #[.int 68], vm := .none },
  { cls := 10, slots := #[.int 69], vm := .none },
  { cls := 10, slots := #[.int 70], vm := .none },
  { cls := 10, slots := #[.int 71], vm := .none },
  { cls := 10, slots := #[.int 72], vm := .none },
  { cls := 10, slots := #[.int 73], vm := .none },
  { cls := 10, slots := #[.int 74], vm := .none },
  { cls := 10, slots := #[.int 75], vm := .none },
  { cls := 10, slots := #[.int 76], vm := .none },
  { cls := 10, slots := #[.int 77], vm := .none },
  { cls := 10, slots := #[.int 78], vm := .none },
  { cls := 10, slots := #[.int 79], vm := .none },
  { cls := 10, slots := #[.int 80], vm := .none },
  { cls := 10, slots := #[.int 81], vm := .none },
  { cls := 10, slots := #[.int 82], vm := .none },
  { cls := 10, slots := #[.int 83], vm := .none },
  { cls := 10, slots := #[.int 84], vm := .none },
  { cls := 10, slots := #[.int 85], vm := .none },
  { cls := 10, slots := #[.int 86], vm := .none },
  { cls := 10, slots := #[.int 87], vm := .none },
  { cls := 10, slots := #[.int 88], vm := .none },
  { cls := 10, slots := #[.int 89], vm := .none },
  { cls := 10, slots := #[.int 90], vm := .none },
  { cls := 10, slots := #[.int 91], vm := .none },
  { cls := 10, slots := #[.int 92], vm := .none },
  { cls := 10, slots := #[.int 93], vm := .none },
  { cls := 10, slots := #[.int 94], vm := .none },
  { cls := 10, slots := #[.int 95], vm := .none },
  { cls := 10, slots := #[.int 96], vm := .none },
  { cls := 10, slots := #[.int 97], vm := .none },
  { cls := 10, slots := #[.int 98], vm := .none },
  { cls := 10, slots := #[.int 99], vm := .none },
  { cls := 10, slots := #[.int 100], vm := .none },
  { cls := 10, slots := #[.int 101], vm := .none },
  { cls := 10, slots := #[.int 102], vm := .none },
  { cls := 10, slots := #[.int 103], vm := .none },
  { cls := 10, slots := #[.int 104], vm := .none },
  { cls := 10, slots := #[.int 105], vm := .none },
  { cls := 10, slots := #[.int 106], vm := .none },
  { cls := 10, slots := #[.int 107], vm := .none },
  { cls := 10, slots := #[.int 108], vm := .none },
  { cls := 10, slots := #[.int 109], vm := .none },
  { cls := 10, slots := #[.int 110], vm := .none },
  { cls := 10, slots := #[.int 111], vm := .none },
  { cls := 10, slots := #[.int 112], vm := .none },
  { cls := 10, slots := #[.int 113], vm := .none },
  { cls := 10, slots := #[.int 114], vm := .none },
  { cls := 10, slots := #[.int 115], vm := .none },
  { cls := 10, slots := #[.int 116], vm := .none },
  { cls := 10, slots := #[.int 117], vm := .none },
  { cls := 10, slots := #[.int 118], vm := .none },
  { cls := 10, slots := #[.int 119], vm := .none },
  { cls := 10, slots := #[.int 120], vm := .none },
  { cls := 10, slots := #[.int 121], vm := .none },
  { cls := 10, slots := #[.int 122], vm := .none },
  { cls := 10, slots := #[.int 123], vm := .none },
  { cls := 10, slots := #[.int 124], vm := .none },
  { cls := 10, slots := #[.int 125], vm := .none },
  { cls := 10, slots := #[.int 126], vm := .none },
  { cls := 10, slots := #[.int 127], vm := .none },
  { cls := 7, slots := #[.null, .int 0, .int 0], vm := .none },
  { cls := 7, slots := #[.null, .int 1, .int 0], vm := .none }]
def classes : Array Class := #[k0, k1, k2, k3, k4, k5, k6, k7, k8, k9, k10, k11, k12, k13, k14, k15, k16, k17]
def interned : List (Array UInt16 × Addr) := []
def slotsUsed : Nat := 526
def theMethod : MethodId := ⟨1, 2⟩
def args0 : Array Value := #[.int 5, .int 6, .int 7]
def aboutOver (below : List Frame) : State where
  vm := { classes := classes, interned := interned.toArray }
  heap := heap
  slotsUsed := slotsUsed
  threads := #[{ frames := .invoking theMethod args0 :: below }]
def below0 : List Frame := [.native { method := ⟨0, 0⟩, args := #[] }]
def about1 : State := aboutOver below0
def p0 : Program := .bare "" "" ""
def e0 : Env := launch0.env 0 0 0
theorem w_frames : about1.frames = Frame.invoking theMethod args0 :: below0 := rfl
set_option maxRecDepth 65536 in
theorem w_args : argsFit about1.vm theMethod args0 = true := by decide +kernel
set_option maxRecDepth 65536 in
theorem w_heap : heapFits about1 = true := by decide +kernel
set_option maxRecDepth 65536 in
theorem w_runnable : about1.curStatus? = some .runnable := by decide +kernel
set_option maxRecDepth 65536 in
theorem w_alone : about1.alone = true := by decide +kernel
set_option maxRecDepth 65536 in
theorem w_named : about1.methodNamed? x = some theMethod := by decide +kernel
set_option maxRecDepth 65536 in
theorem w_hears : about1.hears theMethod below0 = true := by decide +kernel
set_option maxRecDepth 65536 in
theorem w_ripe : about1.ripe theMethod args0 below0 = true := by decide +kernel
theorem w_running : about1.status = .running := rfl
set_option maxRecDepth 65536 in
theorem w_room : about1.hasRoom e0.platform room_1 = true :=
  launch0.hasRoom_least _ room_1 (by decide +kernel) (by decide +kernel) (by decide +kernel) (by decide +kernel) (by decide +kernel) (by decide +kernel)
theorem allAtoms_all (ts : List Jvm.Cond) (a : Array Jvm.Value) (st : Jvm.State) : (allAtoms ts).before a st = ts.all (fun c => c.before a st) := by
  induction ts with
  | nil => rfl
  | cons c t ih =>
    show (Jvm.Cond.and c (allAtoms t)).before a st = _
    rw [Jvm.Cond.before_and, ih, List.all_cons]
def words1 : List Jvm.Cond := Jvm.Cond.code x code maxLocals ret :: tables_1
/-- a 'code' word, met by the world's own term for the bytes: nothing is compared byte by byte -/
theorem code_word {y : MethodName} {bytes : ByteArray} {mx : Nat} {rt : Option FieldType} {a : Array Value} {s : State} {m : MethodId} {meth : Method} {c : Code} (h1 : s.methodNamed? y = some m) (h2 : s.vm.method? m = some meth) (h3 : meth.code = some c) (h4 : c.code = bytes)
    (h5 : (c.maxLocals == mx && c.exceptionTable.isEmpty && decide (c.maxStack ≤ mostOperands) && decide (meth.sig.returnType = rt) && !meth.locks && decide (parseMethodDescriptor y.desc = some meth.sig)) = true) : (Jvm.Cond.code y bytes mx rt).before a s = true := by
  simp only [Bool.and_eq_true, beq_iff_eq, Bool.not_eq_true', decide_eq_true_eq] at h5
  obtain ⟨⟨⟨⟨⟨g1, g2⟩, g3⟩, g4⟩, g5⟩, g6⟩ := h5
  simp [Cond.before, Cond.holds, Cond.value, h1, h2, h3, h4, g1, g2, g3, g4, g5, g6]
def isCode : Jvm.Cond → Bool
  | .code _ _ _ _ => true
  | _ => false
theorem all_split {L : List Jvm.Cond} {P : Jvm.Cond → Bool} (h1 : L.all (fun c => isCode c || P c) = true) (h2 : ∀ c ∈ L.filter isCode, P c = true) : L.all P = true := by
  refine List.all_eq_true.mpr fun c hc => ?_
  have h := List.all_eq_true.mp h1 c hc
  rcases Bool.eq_false_or_eq_true (isCode c) with hi | hi
  · exact h2 c (List.mem_filter.mpr ⟨hc, hi⟩)
  · simpa [hi] using h
set_option maxRecDepth 65536 in
theorem w_c0 : (Jvm.Cond.code x code maxLocals ret).before args0 about1 = true := code_word (m := ⟨1, 2⟩) (meth := k1m2) (c := k1c2) (by decide +kernel) rfl rfl rfl (by decide +kernel)
set_option maxRecDepth 65536 in
theorem w_c1 : (Jvm.Cond.code ({ cls := "com/example/payspread/payspread/model/ExcessRulesEqualsPinLaw", name := "rule", desc := "(I)Lcom/example/payspread/payspread/model/ExcessRules$ExcessRule;" } : Jvm.MethodName) method_2_code (1 : Nat) (Option.some (Jvm.ClassFile.FieldType.object "com/example/payspread/payspread/model/ExcessRules$ExcessRule"))).before args0 about1 = true := code_word (m := ⟨1, 1⟩) (meth := k1m1) (c := k1c1) (by decide +kernel) rfl rfl rfl (by decide +kernel)
set_option maxRecDepth 65536 in
theorem w_c2 : (Jvm.Cond.code ({ cls := "com/example/payspread/payspread/model/ExcessRules", name := "<init>", desc := "(Lcom/example/payspread/payspread/model/ExcessRules$ExcessRule;ZZ)V" } : Jvm.MethodName) prog_34_method_2_code (4 : Nat) (Option.none : Option Jvm.ClassFile.FieldType)).before args0 about1 = true := code_word (m := ⟨2, 0⟩) (meth := k2m0) (c := k2c0) (by decide +kernel) rfl rfl rfl (by decide +kernel)
set_option maxRecDepth 65536 in
theorem w_c3 : (Jvm.Cond.code ({ cls := "java/lang/Object", name := "<init>", desc := "()V" } : Jvm.MethodName) object_method_1_code (1 : Nat) (Option.none : Option Jvm.ClassFile.FieldType)).before args0 about1 = true := code_word (m := ⟨0, 0⟩) (meth := k0m0) (c := k0c0) (by decide +kernel) rfl rfl rfl (by decide +kernel)
set_option maxRecDepth 65536 in
theorem w_c4 : (Jvm.Cond.code ({ cls := "java/lang/Integer", name := "valueOf", desc := "(I)Ljava/lang/Integer;" } : Jvm.MethodName) jdk_33_method_22_code (1 : Nat) (Option.some (Jvm.ClassFile.FieldType.object "java/lang/Integer"))).before args0 about1 = true := code_word (m := ⟨10, 0⟩) (meth := k10m0) (c := k10c0) (by decide +kernel) rfl rfl rfl (by decide +kernel)
set_option maxRecDepth 65536 in
theorem w_c5 : (Jvm.Cond.code ({ cls := "com/example/payspread/payspread/model/ExcessRules", name := "equals", desc := "(Ljava/lang/Object;)Z" } : Jvm.MethodName) prog_34_method_6_code (3 : Nat) (Option.some Jvm.ClassFile.FieldType.boolean)).before args0 about1 = true := code_word (m := ⟨2, 1⟩) (meth := k2m1) (c := k2c1) (by decide +kernel) rfl rfl rfl (by decide +kernel)
set_option maxRecDepth 65536 in
theorem w_c6 : (Jvm.Cond.code ({ cls := "java/lang/Integer", name := "<init>", desc := "(I)V" } : Jvm.MethodName) jdk_33_method_23_code (2 : Nat) (Option.none : Option Jvm.ClassFile.FieldType)).before args0 about1 = true := code_word (m := ⟨10, 1⟩) (meth := k10m1) (c := k10c1) (by decide +kernel) rfl rfl rfl (by decide +kernel)
set_option maxRecDepth 65536 in
theorem w_c7 : (Jvm.Cond.code ({ cls := "java/lang/Number", name := "<init>", desc := "()V" } : Jvm.MethodName) jdk_18_method_1_code (1 : Nat) (Option.none : Option Jvm.ClassFile.FieldType)).before args0 about1 = true := code_word (m := ⟨8, 0⟩) (meth := k8m0) (c := k8c0) (by decide +kernel) rfl rfl rfl (by decide +kernel)
def codes1 : List Jvm.Cond := [Jvm.Cond.code x code maxLocals ret, Jvm.Cond.code ({ cls := "com/example/payspread/payspread/model/ExcessRulesEqualsPinLaw", name := "rule", desc := "(I)Lcom/example/payspread/payspread/model/ExcessRules$ExcessRule;" } : Jvm.MethodName) method_2_code (1 : Nat) (Option.some (Jvm.ClassFile.FieldType.object "com/example/payspread/payspread/model/ExcessRules$ExcessRule")), Jvm.Cond.code ({ cls := "com/example/payspread/payspread/model/ExcessRules", name := "<init>", desc := "(Lcom/example/payspread/payspread/model/ExcessRules$ExcessRule;ZZ)V" } : Jvm.MethodName) prog_34_method_2_code (4 : Nat) (Option.none : Option Jvm.ClassFile.FieldType), Jvm.Cond.code ({ cls := "java/lang/Object", name := "<init>", desc := "()V" } : Jvm.MethodName) object_method_1_code (1 : Nat) (Option.none : Option Jvm.ClassFile.FieldType), Jvm.Cond.code ({ cls := "java/lang/Integer", name := "valueOf", desc := "(I)Ljava/lang/Integer;" } : Jvm.MethodName) jdk_33_method_22_code (1 : Nat) (Option.some (Jvm.ClassFile.FieldType.object "java/lang/Integer")), Jvm.Cond.code ({ cls := "com/example/payspread/payspread/model/ExcessRules", name := "equals", desc := "(Ljava/lang/Object;)Z" } : Jvm.MethodName) prog_34_method_6_code (3 : Nat) (Option.some Jvm.ClassFile.FieldType.boolean), Jvm.Cond.code ({ cls := "java/lang/Integer", name := "<init>", desc := "(I)V" } : Jvm.MethodName) jdk_33_method_23_code (2 : Nat) (Option.none : Option Jvm.ClassFile.FieldType), Jvm.Cond.code ({ cls := "java/lang/Number", name := "<init>", desc := "()V" } : Jvm.MethodName) jdk_18_method_1_code (1 : Nat) (Option.none : Option Jvm.ClassFile.FieldType)]
set_option maxRecDepth 65536 in
theorem codes_eq : words1.filter isCode = codes1 := rfl
theorem w_codes : ∀ c ∈ words1.filter isCode, c.before args0 about1 = true := by
  rw [codes_eq]
  intro c hc
  simp only [codes1, List.mem_cons, List.not_mem_nil, or_false] at hc
  rcases hc with rfl | rfl | rfl | rfl | rfl | rfl | rfl | rfl
  · exact w_c0
  · exact w_c1
  · exact w_c2
  · exact w_c3
  · exact w_c4
  · exact w_c5
  · exact w_c6
  · exact w_c7
set_option maxRecDepth 65536 in
theorem w_t1 : (words1.take 24).all (fun c => isCode c || c.before args0 about1) = true := by decide +kernel
set_option maxRecDepth 65536 in
theorem w_t2 : ((words1.drop 24).take 24).all (fun c => isCode c || c.before args0 about1) = true := by decide +kernel
set_option maxRecDepth 65536 in
theorem w_t3 : ((words1.drop 24).drop 24).all (fun c => isCode c || c.before args0 about1) = true := by decide +kernel
theorem w_tables : (allAtoms (Jvm.Cond.code x code maxLocals ret :: tables_1)).before args0 about1 = true := by
  rw [allAtoms_all]
  show words1.all (fun c => c.before args0 about1) = true
  refine all_split ?_ w_codes
  rw [← List.take_append_drop 24 words1, List.all_append, w_t1, ← List.take_append_drop 24 (words1.drop 24), List.all_append, w_t2, w_t3]
  rfl
set_option maxRecDepth 65536 in
theorem w_rest : rest_1_c.before args0 about1 = true := by decide +kernel
set_option maxRecDepth 65536 in
theorem w_case : (Jvm.Cond.and given_1 narrow_1).before args0 about1 = true := by decide +kernel
theorem w_applies : (headSpec (Jvm.Cond.code x code maxLocals ret :: tables_1) room_1).applies x e0.platform about1 = true :=
  (Spec.applies_iff w_frames).mpr ⟨w_running, w_runnable, w_alone, w_named, w_hears, w_ripe, w_room, w_tables⟩
theorem atStart : AtStart classFile x code maxLocals ret World_1 tables_1 room_1 Calls_1 rest_1 Pre_1 launch0 p0 e0 about1 theMethod args0 below0 :=
  ⟨lists_1, trivial, launch0.admits_env _ _ _, launch0.least_env, fairChoices_fair.cas, fairChoices_fair.clock, w_frames, w_args, w_heap, w_applies, trivial, w_rest, w_case⟩
end start1
theorem witness_1 : WitnessClaimed_1 := ⟨start1.p0, start1.e0, start1.about1, start1.theMethod, start1.args0, start1.below0, start1.atStart⟩
end Jvm.Pilot.@@N@@

import JvmDerived
import JvmDerived.Pilot.@@N@@Statement
import JvmDerived.Pilot.@@N@@Code
set_option linter.unusedVariables false
set_option linter.unusedSimpArgs false
namespace Jvm.RoadKit
open Sem ClassFile Op Lib Jvm.Stand Jvm.Free Jvm.LawKit
section New
variable {p : Program} {l : Launch} {e : Env} {R : Room} {s : State} {m : MethodId} {args : Array Value} {below : List Frame} {meth : Method} {c : Code} {T : State} {locs : List Loc} {cells slots : Nat}
theorem retI (X : Stand p l e R s m args below meth c T locs cells slots) (hx : p.tables.exec = Jvm.exec) {pc : Nat} {Ls : Array Slot} {z : Int32} {rest : List Value} (hret : meth.sig.returnType = some .int) (hd : decode c.code pc = .ok (.ireturn, 1)) {fs : List Frame}
    (hl : ∀ (f : JFrame) (acts : List Action), f.method = m → f.locked = none → f.entered = [] → (doReturn e (T.setTop f) acts (some (.int z))).1 = T.setFrames fs) : Steps p.tables e below (T.setTop (mkF m pc Ls (.int z :: rest))) (T.setFrames fs) := by
  have hm' : T.vm.method? m = some meth := X.method'
  have hn : narrow .int (.int z) = .int z := rfl
  show Steps p.tables e below (T.setTop { method := m, pc := pc, locals := Ls, stack := _ :: rest, locked := none }) _
  jvm_step X.here [X.here.top, hx, hd, hm', hret, hn]
  first | (intro acts; rw [hl _ acts rfl rfl rfl]) | rw [hl _ _ rfl rfl rfl]
  exact Steps.refl _
end New
end Jvm.RoadKit
namespace Jvm.Pilot.@@N@@
open Jvm Jvm.ClassFile Sem Op Lib Jvm.Free Jvm.Stand Jvm.LawKit Jvm.RoadKit Bundle Jvm.Pilot.@@N@@.Jvm.D
theorem own_eqint {args : Array Value} {first s : State} {o : Option Outcome} {idx : List Nat} {t : Term} {k : Int32} (h : (Jvm.Cond.eq t (.int k)).value args first o s idx = some true) : t.eval args first o idx s = some (.int k) := by
  obtain ⟨x, y, hx, hy, hk, hk'⟩ := cmp_v (Or.inl h)
  have ey : y = .int k := (Option.some.inj ((Term.int_eval k).symm.trans hy)).symm
  subst ey
  obtain ⟨z, rfl⟩ := hk'
  have hv : (Jvm.Cond.eq t (.int k)).value args first o s idx = some (decide (z = k)) := by simp [Cond.value, hx, hy]
  have := gotT hv h
  rw [hx, this]
theorem own_eqref {args : Array Value} {first s : State} {o : Option Outcome} {idx : List Nat} {t u : Term} {v : Value} (h : (Jvm.Cond.eq t u).value args first o s idx = some true) (hu : u.eval args first o idx s = some v) (hv : v.isRef = true) : t.eval args first o idx s = some v := by
  obtain ⟨x, y, hx, hy, hk, hk'⟩ := cmp_v (Or.inl h)
  have ey : y = v := Option.some.inj (hy.symm.trans hu)
  subst ey
  have hxr : x.isRef = true := by cases y <;> simp [Value.isRef] at hv <;> exact hk'.2
  have := gotT (eq_R hx hy hxr hv) h
  rw [hx, this]
theorem own_fld {args : Array Value} {s : State} {t : Term} {C n d : String} {k : Int32} {a : Addr} (ht : t.eval args s none [] s = some (.ref a)) (h : (Jvm.Cond.eq (.field t C n d) (.int k)).value args s none s [] = some true) : Fld s s.heap a C n d (.int k) := Fld.start ((fld_at ht).symm.trans (own_eqint h))
theorem own_fld_inj {Z : State} {h : Heap} {a : Addr} {C n d : String} {v w : Value} (F : Fld Z h a C n d v) (G : Fld Z h a C n d w) : v = w := by
  obtain ⟨c1, cf1, k1, i1, f1, h1, h2, -, -, -, -, h3⟩ := F
  obtain ⟨c2, cf2, k2, i2, f2, g1, g2, -, -, -, -, g3⟩ := G
  rw [h1] at g1; cases g1
  rw [h2] at g2; cases g2
  exact Option.some.inj (h3.symm.trans g3)
theorem own_ne {Z : State} {h : Heap} {a b : Addr} {C n d : String} {i j : Int32} (F : Fld Z h a C n d (.int i)) (G : Fld Z h b C n d (.int j)) (hij : ¬ i = j) : ¬ a = b := fun e => by
  subst e
  exact hij (Value.int.inj (own_fld_inj F G))
theorem own_keep_ext {h h' : Heap} (K : Keep h h' []) : Ext h h' := ⟨K.1, fun a c q => K.2.1 a c q nin0⟩
theorem own_sta_keep {Z : State} {h h' : Heap} {C n d C' : String} {v : Value} {b : Addr} (F : Sta Z h C n d v) (K : Keep h h' [b]) (E : Exa Z h b C') : Sta Z h' C n d v := by
  obtain ⟨cf, i, k, f, st, cell, h1, h2, h3, h4, h5, h6, h7⟩ := F
  obtain ⟨cell', k', g1, g2, g3, g4, g5⟩ := E
  refine ⟨cf, i, k, f, st, cell, h1, h2, h3, h4, K.2.1 st cell h5 (ninS (fun q => ?_) nin0), h6, h7⟩
  subst q
  rw [h5] at g1; cases g1
  rw [h6] at g4; cases g4
theorem own_at {s : State} {w : Addr} {cl : Cell} {ty : FieldType} (A : Arr s s.heap w cl ty) : s.arrayAt? w = some cl := Arr.fin (State.Warmed39.refl s).alike A
theorem own_len {args : Array Value} {s : State} {t : Term} {k : Int32} {w : Addr} {cl : Cell} {ty : FieldType} (ht : t.eval args s none [] s = some (.ref w)) (A : Arr s s.heap w cl ty) (h : (Jvm.Cond.eq (.length t) (.int k)).value args s none s [] = some true) : cl.slots.size = k.toNatClampNeg ∧ ¬ k < 0 ∧ cl.slots.size < 2 ^ 31 := by
  have e := own_eqint h
  have ha := own_at A
  by_cases h1 : cl.slots.size < 2 ^ 31
  · rw [len_f ht ha h1] at e
    have e2 : cl.slots.size.toInt32 = k := Value.int.inj (Option.some.inj e)
    subst e2
    have e3 := len_toInt h1
    refine ⟨?_, ?_, h1⟩
    · show cl.slots.size = (cl.slots.size.toInt32).toInt.toNat
      rw [e3]; rfl
    · rw [Int32.lt_iff_toInt_lt, e3]
      show ¬ ((cl.slots.size : Int) < 0)
      omega
  · simp [Term.eval, ht, ha, h1] at e
theorem own_idx {i : Nat} (hi : i < 2 ^ 31) : i.toInt32.toNatClampNeg = i ∧ ¬ i.toInt32 < 0 := by
  have e3 := len_toInt hi
  refine ⟨?_, ?_⟩
  · show (i.toInt32).toInt.toNat = i
    rw [e3]; rfl
  · rw [Int32.lt_iff_toInt_lt, e3]
    show ¬ ((i : Int) < 0)
    omega
theorem own_elem {args : Array Value} {s : State} {t : Term} {j v : Int32} {w : Addr} {cl : Cell} {ty : FieldType} (ht : t.eval args s none [] s = some (.ref w)) (A : Arr s s.heap w cl ty) (h : (Jvm.Cond.eq (.elem t (.int j)) (.int v)).value args s none s [] = some true) (hj : ¬ j < 0) : cl.slots[j.toNatClampNeg]? = some (.int v) := by
  have e := own_eqint h
  rw [elem_f ht (Term.int_eval j) (own_at A) hj] at e
  exact e
theorem own_elemR {args : Array Value} {s : State} {t u : Term} {j : Int32} {v : Value} {w : Addr} {cl : Cell} {ty : FieldType} (ht : t.eval args s none [] s = some (.ref w)) (A : Arr s s.heap w cl ty) (h : (Jvm.Cond.eq (.elem t (.int j)) u).value args s none s [] = some true) (hu : u.eval args s none [] s = some v) (hv : v.isRef = true) (hj : ¬ j < 0) : cl.slots[j.toNatClampNeg]? = some v := by
  have e := own_eqref h hu hv
  rw [elem_f ht (Term.int_eval j) (own_at A) hj] at e
  exact e
theorem own_or {args : Array Value} {first s : State} {o : Option Outcome} {idx : List Nat} {a b : Jvm.Cond} (h : (Jvm.Cond.or a b).value args first o s idx = some true) (ha : a.value args first o s idx = some false) : b.value args first o s idx = some true := by
  simpa [Cond.value, ha] using h
theorem own_ltl {i : Nat} {k : Int32} (hi : i < 2 ^ 31) (h : (i : Int) < k.toInt) : i.toInt32 < k := by
  rw [Int32.lt_iff_toInt_lt, len_toInt hi]; exact h
theorem own_gel {i : Nat} {k : Int32} (hi : i < 2 ^ 31) (h : k.toInt ≤ (i : Int)) : ¬ i.toInt32 < k := by
  rw [Int32.lt_iff_toInt_lt, len_toInt hi]; omega
theorem own_atidx {args : Array Value} {s : State} {t : Term} {v : Int32} {w : Addr} {cl : Cell} {ty : FieldType} {i : Nat} (ht : t.eval args s none [i] s = some (.ref w)) (A : Arr s s.heap w cl ty) (hi : i < 2 ^ 31) (h : (Jvm.Cond.eq (.elem t (.index 0)) (.int v)).value args s none s [i] = some true) : cl.slots[i]? = some (.int v) := by
  have e := own_eqint h
  rw [elem_f (j := i.toInt32) ht rfl (own_at A) (own_idx hi).2, (own_idx hi).1] at e
  exact e
theorem own_all_a {args : Array Value} {s : State} {t : Term} {K v : Int32} {w : Addr} {cl : Cell} {ty : FieldType} (ht : ∀ idx, t.eval args s none idx s = some (.ref w)) (A : Arr s s.heap w cl ty) (hz : cl.slots.size < 2 ^ 31)
    (h : (Jvm.Cond.all t (.or (.le (.int K) (.index 0)) (.eq (.elem t (.index 0)) (.int v)))).value args s none s [] = some true) (i : Nat) (hi : i < cl.slots.size) (hK : i.toInt32 < K) : cl.slots[i]? = some (.int v) := by
  have h1 := Cond.all_elim (ht []) (own_at A) h i hi
  have h2 := own_or h1 (by
    have q : (Jvm.Cond.le (.int K) (.index 0)).value args s none s [i] = some (decide (K ≤ i.toInt32)) := Cond.le_ints rfl rfl
    rw [q]; simp [Int32.not_le.mpr hK])
  exact own_atidx (ht _) A (by omega) h2
theorem own_all_b {args : Array Value} {s : State} {t : Term} {lo K v : Int32} {w : Addr} {cl : Cell} {ty : FieldType} (ht : ∀ idx, t.eval args s none idx s = some (.ref w)) (A : Arr s s.heap w cl ty) (hz : cl.slots.size < 2 ^ 31)
    (h : (Jvm.Cond.all t (.or (.lt (.index 0) (.int lo)) (.or (.le (.int K) (.index 0)) (.eq (.elem t (.index 0)) (.int v))))).value args s none s [] = some true) (i : Nat) (hi : i < cl.slots.size) (hL : ¬ i.toInt32 < lo) (hK : i.toInt32 < K) : cl.slots[i]? = some (.int v) := by
  have h1 := Cond.all_elim (ht []) (own_at A) h i hi
  have h2 := own_or h1 (by
    have q : (Jvm.Cond.lt (.index 0) (.int lo)).value args s none s [i] = some (decide (i.toInt32 < lo)) := Cond.lt_ints rfl rfl
    rw [q]; simp [hL])
  have h3 := own_or h2 (by
    have q : (Jvm.Cond.le (.int K) (.index 0)).value args s none s [i] = some (decide (K ≤ i.toInt32)) := Cond.le_ints rfl rfl
    rw [q]; simp [Int32.not_le.mpr hK])
  exact own_atidx (ht _) A (by omega) h3
def ofW (k : Int32) (w_POINT : Addr) (w_LINESTRING : Addr) (w_POLYGON : Addr) (w_MULTIPOINT : Addr) (w_MULTILINESTRING : Addr) (w_MULTIPOLYGON : Addr) (w_GEOMETRYCOLLECTION : Addr) : Value := if (1 : Int32) = k then .ref w_POINT else if (2 : Int32) = k then .ref w_LINESTRING else if (3 : Int32) = k then .ref w_POLYGON else if (4 : Int32) = k then .ref w_MULTIPOINT else if (5 : Int32) = k then .ref w_MULTILINESTRING else if (6 : Int32) = k then .ref w_MULTIPOLYGON else if (7 : Int32) = k then .ref w_GEOMETRYCOLLECTION else .null
def exW (k : Int32) (w_POINT : Addr) (w_LINESTRING : Addr) (w_POLYGON : Addr) (w_MULTIPOINT : Addr) (w_MULTILINESTRING : Addr) (w_MULTIPOLYGON : Addr) (w_GEOMETRYCOLLECTION : Addr) : Value := if k = (1 : Int32) then .ref w_POINT else if k = (2 : Int32) then .ref w_LINESTRING else if k = (3 : Int32) then .ref w_POLYGON else if k = (4 : Int32) then .ref w_MULTIPOINT else if k = (5 : Int32) then .ref w_MULTILINESTRING else if k = (6 : Int32) then .ref w_MULTIPOLYGON else if k = (7 : Int32) then .ref w_GEOMETRYCOLLECTION else .null
theorem d1_0 : decode prog_6_method_4_code 0 = .ok (.getstatic 52, 3) := by decide +kernel
theorem d1_3 : decode prog_6_method_4_code 3 = .ok (.astore_n 1, 1) := by decide +kernel
theorem d1_4 : decode prog_6_method_4_code 4 = .ok (.aload_n 1, 1) := by decide +kernel
theorem d1_5 : decode prog_6_method_4_code 5 = .ok (.arraylength, 1) := by decide +kernel
theorem d1_6 : decode prog_6_method_4_code 6 = .ok (.istore_n 2, 1) := by decide +kernel
theorem d1_7 : decode prog_6_method_4_code 7 = .ok (.iconst 0, 1) := by decide +kernel
theorem d1_8 : decode prog_6_method_4_code 8 = .ok (.istore_n 3, 1) := by decide +kernel
theorem d1_9 : decode prog_6_method_4_code 9 = .ok (.iload_n 3, 1) := by decide +kernel
theorem d1_10 : decode prog_6_method_4_code 10 = .ok (.iload_n 2, 1) := by decide +kernel
theorem d1_11 : decode prog_6_method_4_code 11 = .ok (.if_icmp .ge 26, 3) := by decide +kernel
theorem d1_14 : decode prog_6_method_4_code 14 = .ok (.aload_n 1, 1) := by decide +kernel
theorem d1_15 : decode prog_6_method_4_code 15 = .ok (.iload_n 3, 1) := by decide +kernel
theorem d1_16 : decode prog_6_method_4_code 16 = .ok (.aaload, 1) := by decide +kernel
theorem d1_17 : decode prog_6_method_4_code 17 = .ok (.astore 4, 2) := by decide +kernel
theorem d1_19 : decode prog_6_method_4_code 19 = .ok (.aload 4, 2) := by decide +kernel
theorem d1_21 : decode prog_6_method_4_code 21 = .ok (.getfield 44, 3) := by decide +kernel
theorem d1_24 : decode prog_6_method_4_code 24 = .ok (.iload_n 0, 1) := by decide +kernel
theorem d1_25 : decode prog_6_method_4_code 25 = .ok (.if_icmp .ne 6, 3) := by decide +kernel
theorem d1_28 : decode prog_6_method_4_code 28 = .ok (.aload 4, 2) := by decide +kernel
theorem d1_30 : decode prog_6_method_4_code 30 = .ok (.areturn, 1) := by decide +kernel
theorem d1_31 : decode prog_6_method_4_code 31 = .ok (.iinc 3 1, 3) := by decide +kernel
theorem d1_34 : decode prog_6_method_4_code 34 = .ok (.goto (-25), 3) := by decide +kernel
theorem d1_37 : decode prog_6_method_4_code 37 = .ok (.aconst_null, 1) := by decide +kernel
theorem d1_38 : decode prog_6_method_4_code 38 = .ok (.areturn, 1) := by decide +kernel
theorem pn_rm1 : plainName "com/example/wellknit/wellknit/GeometryType" = true := by first | (simp [plainName, overriddenIn]; done) | decide +kernel
theorem ef_rm1 (m : MethodId) (p1 : Int32) : entryFrame m #[(.int p1)] 5 = mkF m 0 #[.val (.int p1), .unset, .unset, .unset, .unset] [] := by first | (simp [entryFrame, mkF, argsToLocals, Value.category]; done) | rfl
def Q_rm1 (Z : State) (p1 : Int32) (wT : Addr) (cl : Cell) (w_POINT : Addr) (w_LINESTRING : Addr) (w_POLYGON : Addr) (w_MULTIPOINT : Addr) (w_MULTILINESTRING : Addr) (w_MULTIPOLYGON : Addr) (w_GEOMETRYCOLLECTION : Addr) (r : Value) (h0 : Heap) (n0 : Nat) (v : Option Value) (h : Heap) (L : List Loc) : Prop := v = some r ∧ Fr n0 L ∧ h = h0
set_option maxRecDepth 65536 in
set_option maxHeartbeats 40000000 in
theorem rm1 (l : Launch) (Z : State) (a0 : Array Value) (hw : ∀ d ∈ tables_1, d.before a0 Z = true) (ws : List Jvm.Cond) (p1 : Int32) (wT : Addr) (cl : Cell) (w_POINT : Addr) (w_LINESTRING : Addr) (w_POLYGON : Addr) (w_MULTIPOINT : Addr) (w_MULTILINESTRING : Addr) (w_MULTIPOLYGON : Addr) (w_GEOMETRYCOLLECTION : Addr) (r : Value) (h0 : Heap) (n0 : Nat) (Z0 : n0 ≤ h0.size) (S_TYPES : Sta Z h0 "com/example/wellknit/wellknit/GeometryType" "TYPES" "[Lcom/example/wellknit/wellknit/GeometryType;" (.ref wT)) (Ar : Arr Z h0 wT cl (.object "com/example/wellknit/wellknit/GeometryType")) (hS : cl.slots.size = (7 : Int32).toNatClampNeg) (A_POINT : cl.slots[(0 : Int32).toNatClampNeg]? = some (.ref w_POINT)) (A_LINESTRING : cl.slots[(1 : Int32).toNatClampNeg]? = some (.ref w_LINESTRING)) (A_POLYGON : cl.slots[(2 : Int32).toNatClampNeg]? = some (.ref w_POLYGON)) (A_MULTIPOINT : cl.slots[(3 : Int32).toNatClampNeg]? = some (.ref w_MULTIPOINT)) (A_MULTILINESTRING : cl.slots[(4 : Int32).toNatClampNeg]? = some (.ref w_MULTILINESTRING)) (A_MULTIPOLYGON : cl.slots[(5 : Int32).toNatClampNeg]? = some (.ref w_MULTIPOLYGON)) (A_GEOMETRYCOLLECTION : cl.slots[(6 : Int32).toNatClampNeg]? = some (.ref w_GEOMETRYCOLLECTION)) (O_POINT : Fld Z h0 w_POINT "com/example/wellknit/wellknit/GeometryType" "code" "I" (.int (1 : Int32))) (O_LINESTRING : Fld Z h0 w_LINESTRING "com/example/wellknit/wellknit/GeometryType" "code" "I" (.int (2 : Int32))) (O_POLYGON : Fld Z h0 w_POLYGON "com/example/wellknit/wellknit/GeometryType" "code" "I" (.int (3 : Int32))) (O_MULTIPOINT : Fld Z h0 w_MULTIPOINT "com/example/wellknit/wellknit/GeometryType" "code" "I" (.int (4 : Int32))) (O_MULTILINESTRING : Fld Z h0 w_MULTILINESTRING "com/example/wellknit/wellknit/GeometryType" "code" "I" (.int (5 : Int32))) (O_MULTIPOLYGON : Fld Z h0 w_MULTIPOLYGON "com/example/wellknit/wellknit/GeometryType" "code" "I" (.int (6 : Int32))) (O_GEOMETRYCOLLECTION : Fld Z h0 w_GEOMETRYCOLLECTION "com/example/wellknit/wellknit/GeometryType" "code" "I" (.int (7 : Int32))) (hret : ofW p1 w_POINT w_LINESTRING w_POLYGON w_MULTIPOINT w_MULTILINESTRING w_MULTIPOLYGON w_GEOMETRYCOLLECTION = r) :
    MetFree l (⟨"com/example/wellknit/wellknit/GeometryType", "ofCode", "(I)Lcom/example/wellknit/wellknit/GeometryType;"⟩ : MethodName) (head1 (Jvm.Cond.code (⟨"com/example/wellknit/wellknit/GeometryType", "ofCode", "(I)Lcom/example/wellknit/wellknit/GeometryType;"⟩ : MethodName) prog_6_method_4_code 5 (some (.object "com/example/wellknit/wellknit/GeometryType")) :: ws) ({ frames := 0, cells := 0, slots := 0, locals := 0 } : Room)) (fun a U => a = #[(.int p1)] ∧ Z.Warmed39 U.vm ∧ U.heap = h0) (fun _ _ _ _ _ => True) (fun _ U o U' => ∃ v L, o = .returned v ∧ Q_rm1 Z p1 wT cl w_POINT w_LINESTRING w_POLYGON w_MULTIPOINT w_MULTILINESTRING w_MULTIPOLYGON w_GEOMETRYCOLLECTION r h0 n0 v U'.heap L ∧ FrameEnd U o U' L ({ frames := 0, cells := 0, slots := 0, locals := 0 } : Room).cells ({ frames := 0, cells := 0, slots := 0, locals := 0 } : Room).slots) := by
  refine MetFree.of_bodySF (plainFor_of_name pn_rm1) hisR ?_
  intro p e s m args below meth c s₁ Bd hml0 hP hK
  obtain ⟨rfl, hZ, hh⟩ := hP
  have hx := Bd.exec
  have hby := Bd.bytes
  have hml : c.maxLocals = 5 := hml0
  have hown : s.vm.findClass "com/example/wellknit/wellknit/GeometryType" = some m.cls := findClass_of_methodNamed Bd.named
  have hnm := (name_of_methodNamed Bd.named Bd.method).1
  have X0 : Stand p l e ({ frames := 0, cells := 0, slots := 0, locals := 0 } : Room) s m #[(.int p1)] below meth c s₁ [] 0 0 := Stand.of_body Bd
  have e0 : s₁.heap = h0 := by rw [← hh, Bd.state]; rfl
  have N0 := Fr.nil n0
  have pre0 : ∀ t, Steps p.tables e below (s₁.setTop (mkF m 0 #[.val (.int p1), .unset, .unset, .unset, .unset] [])) t → Steps p.tables e below (s₁.setTop (entryFrame m #[(.int p1)] 5)) t := fun t k => castTop (ef_rm1 m p1) k
  obtain ⟨T1, X1, e1, st1⟩ := getS2 X0 hx hZ hown (host := "") (Or.inl (hw _ (List.mem_of_getElem? (i := 4) rfl))) Via.refl e0 S_TYPES (g := (mkF m 0 #[.val (.int p1), .unset, .unset, .unset, .unset] [])) rfl (hb hby d1_0)
  obtain ⟨T2, X2, e2, st2⟩ := getF X1 hx hZ hown (host := "") (Or.inl (hw _ (List.mem_of_getElem? (i := 7) rfl))) Via.refl e1 O_POINT (g := (mkF m 21 #[.val (.int p1), .val (.ref wT), .val (.int (7 : Int32)), .val (.int (0 : Int32)), .val (.ref w_POINT)] [(.ref w_POINT)])) rfl rfl (hb hby d1_21)
  have pre3 : ∀ t, Steps p.tables e below (T2.setTop (mkF m 25 #[.val (.int p1), .val (.ref wT), .val (.int (7 : Int32)), .val (.int (0 : Int32)), .val (.ref w_POINT)] [(.int p1), (.int (1 : Int32))])) t → Steps p.tables e below (s₁.setTop (entryFrame m #[(.int p1)] 5)) t := fun t k => pre0 t (by
      show Steps p.tables e below (s₁.setTop (mkF m 0 #[.val (.int p1), .unset, .unset, .unset, .unset] [])) _
      refine st1 _ ?_
      show Steps p.tables e below (T1.setTop (mkF m 3 #[.val (.int p1), .unset, .unset, .unset, .unset] [(.ref wT)])) _
      refine XS.astoreN X1.here hx rfl (hb hby d1_3) rfl rfl (l' := #[.val (.int p1), .val (.ref wT), .unset, .unset, .unset]) rfl ?_
      show Steps p.tables e below (T1.setTop (mkF m 4 #[.val (.int p1), .val (.ref wT), .unset, .unset, .unset] [])) _
      refine XS.aloadN X1.here hx rfl (hb hby d1_4) rfl rfl ?_
      show Steps p.tables e below (T1.setTop (mkF m 5 #[.val (.int p1), .val (.ref wT), .unset, .unset, .unset] [(.ref wT)])) _
      refine X1.arraylength hx (by rw [e1]; exact Ar.1) (State.isArrayOf_alike hZ.alike Ar.2.1) (g := (mkF m 5 #[.val (.int p1), .val (.ref wT), .unset, .unset, .unset] [(.ref wT)])) rfl rfl (hb hby d1_5) _ ?_
      rw [len_of hS (by decide)]
      show Steps p.tables e below (T1.setTop (mkF m 6 #[.val (.int p1), .val (.ref wT), .unset, .unset, .unset] [(.int (7 : Int32))])) _
      refine XS.istoreN X1.here hx rfl (hb hby d1_6) rfl (l' := #[.val (.int p1), .val (.ref wT), .val (.int (7 : Int32)), .unset, .unset]) rfl ?_
      show Steps p.tables e below (T1.setTop (mkF m 7 #[.val (.int p1), .val (.ref wT), .val (.int (7 : Int32)), .unset, .unset] [])) _
      refine XS.iconst X1.here hx rfl (hb hby d1_7) ?_
      show Steps p.tables e below (T1.setTop (mkF m 8 #[.val (.int p1), .val (.ref wT), .val (.int (7 : Int32)), .unset, .unset] [(.int (0 : Int32))])) _
      refine XS.istoreN X1.here hx rfl (hb hby d1_8) rfl (l' := #[.val (.int p1), .val (.ref wT), .val (.int (7 : Int32)), .val (.int (0 : Int32)), .unset]) rfl ?_
      show Steps p.tables e below (T1.setTop (mkF m 9 #[.val (.int p1), .val (.ref wT), .val (.int (7 : Int32)), .val (.int (0 : Int32)), .unset] [])) _
      refine XS.iloadN X1.here hx rfl (hb hby d1_9) rfl ?_
      show Steps p.tables e below (T1.setTop (mkF m 10 #[.val (.int p1), .val (.ref wT), .val (.int (7 : Int32)), .val (.int (0 : Int32)), .unset] [(.int (0 : Int32))])) _
      refine XS.iloadN X1.here hx rfl (hb hby d1_10) rfl ?_
      show Steps p.tables e below (T1.setTop (mkF m 11 #[.val (.int p1), .val (.ref wT), .val (.int (7 : Int32)), .val (.int (0 : Int32)), .unset] [(.int (7 : Int32)), (.int (0 : Int32))])) _
      refine XS.icmpNo X1.here hx rfl (hb hby d1_11) rfl (tlt (by decide : (0 : Int32) < (7 : Int32))).2.1 ?_
      show Steps p.tables e below (T1.setTop (mkF m 14 #[.val (.int p1), .val (.ref wT), .val (.int (7 : Int32)), .val (.int (0 : Int32)), .unset] [])) _
      refine XS.aloadN X1.here hx rfl (hb hby d1_14) rfl rfl ?_
      show Steps p.tables e below (T1.setTop (mkF m 15 #[.val (.int p1), .val (.ref wT), .val (.int (7 : Int32)), .val (.int (0 : Int32)), .unset] [(.ref wT)])) _
      refine XS.iloadN X1.here hx rfl (hb hby d1_15) rfl ?_
      show Steps p.tables e below (T1.setTop (mkF m 16 #[.val (.int p1), .val (.ref wT), .val (.int (7 : Int32)), .val (.int (0 : Int32)), .unset] [(.int (0 : Int32)), (.ref wT)])) _
      refine X1.aaload hx (j := (0 : Int32)) (v := (.ref w_POINT)) (by rw [e1]; exact Ar.1) (State.isArrayOf_alike hZ.alike Ar.2.1) rfl Ar.2.2 (inb_of hS ⟨by decide, by decide⟩) A_POINT (g := (mkF m 16 #[.val (.int p1), .val (.ref wT), .val (.int (7 : Int32)), .val (.int (0 : Int32)), .unset] [(.int (0 : Int32)), (.ref wT)])) rfl rfl (hb hby d1_16) _ ?_
      show Steps p.tables e below (T1.setTop (mkF m 17 #[.val (.int p1), .val (.ref wT), .val (.int (7 : Int32)), .val (.int (0 : Int32)), .unset] [(.ref w_POINT)])) _
      refine XS.astore X1.here hx rfl (hb hby d1_17) rfl rfl (l' := #[.val (.int p1), .val (.ref wT), .val (.int (7 : Int32)), .val (.int (0 : Int32)), .val (.ref w_POINT)]) rfl ?_
      show Steps p.tables e below (T1.setTop (mkF m 19 #[.val (.int p1), .val (.ref wT), .val (.int (7 : Int32)), .val (.int (0 : Int32)), .val (.ref w_POINT)] [])) _
      refine XS.aload X1.here hx rfl (hb hby d1_19) rfl rfl ?_
      show Steps p.tables e below (T1.setTop (mkF m 21 #[.val (.int p1), .val (.ref wT), .val (.int (7 : Int32)), .val (.int (0 : Int32)), .val (.ref w_POINT)] [(.ref w_POINT)])) _
      refine st2 _ ?_
      show Steps p.tables e below (T2.setTop (mkF m 24 #[.val (.int p1), .val (.ref wT), .val (.int (7 : Int32)), .val (.int (0 : Int32)), .val (.ref w_POINT)] [(.int (1 : Int32))])) _
      refine XS.iloadN X2.here hx rfl (hb hby d1_24) rfl ?_
      exact k)
  by_cases hc4 : (1 : Int32) = p1
  · obtain ⟨fs, hr, hrun, hended, hW, hsame⟩ := X2.leave (v := some (.ref w_POINT)) (fun h => by rw [Bd.returns] at h; cases h)
    refine ⟨_, _, pre3 _ ?_, hrun, hended, _, _, rfl, ?_, ⟨_, rfl⟩, hW, hsame.mono (by decide) (by decide)⟩
    · show Steps p.tables e below (T2.setTop (mkF m 25 #[.val (.int p1), .val (.ref wT), .val (.int (7 : Int32)), .val (.int (0 : Int32)), .val (.ref w_POINT)] [(.int p1), (.int (1 : Int32))])) _
      refine XS.icmpNo X2.here hx rfl (hb hby d1_25) rfl (teq hc4).2 ?_
      show Steps p.tables e below (T2.setTop (mkF m 28 #[.val (.int p1), .val (.ref wT), .val (.int (7 : Int32)), .val (.int (0 : Int32)), .val (.ref w_POINT)] [])) _
      refine XS.aload X2.here hx rfl (hb hby d1_28) rfl rfl ?_
      show Steps p.tables e below (T2.setTop (mkF m 30 #[.val (.int p1), .val (.ref wT), .val (.int (7 : Int32)), .val (.int (0 : Int32)), .val (.ref w_POINT)] [(.ref w_POINT)])) _
      jvm_step X2.here [X2.here.top, hx, (hb hby d1_30), X2.method', Bd.returns, Value.isRef, FieldType.isReference]
      first | (intro acts; rw [hr _ acts rfl rfl rfl]) | rw [hr _ _ rfl rfl rfl]
      exact Steps.refl _
    · show Q_rm1 Z p1 wT cl w_POINT w_LINESTRING w_POLYGON w_MULTIPOINT w_MULTILINESTRING w_MULTIPOLYGON w_GEOMETRYCOLLECTION r h0 n0 _ T2.heap _
      rw [e2]
      exact ⟨by rw [← hret]; simp only [ofW, if_pos hc4], N0, rfl⟩
  · obtain ⟨T5, X5, e5, st5⟩ := getF X2 hx hZ hown (host := "") (Or.inl (hw _ (List.mem_of_getElem? (i := 7) rfl))) Via.refl e2 O_LINESTRING (g := (mkF m 21 #[.val (.int p1), .val (.ref wT), .val (.int (7 : Int32)), .val (.int (1 : Int32)), .val (.ref w_LINESTRING)] [(.ref w_LINESTRING)])) rfl rfl (hb hby d1_21)
    have pre6 : ∀ t, Steps p.tables e below (T5.setTop (mkF m 25 #[.val (.int p1), .val (.ref wT), .val (.int (7 : Int32)), .val (.int (1 : Int32)), .val (.ref w_LINESTRING)] [(.int p1), (.int (2 : Int32))])) t → Steps p.tables e below (s₁.setTop (entryFrame m #[(.int p1)] 5)) t := fun t k => pre3 t (by
        show Steps p.tables e below (T2.setTop (mkF m 25 #[.val (.int p1), .val (.ref wT), .val (.int (7 : Int32)), .val (.int (0 : Int32)), .val (.ref w_POINT)] [(.int p1), (.int (1 : Int32))])) _
        refine XS.icmpYes X2.here hx rfl (pc0 := 25) (pc' := 31) rfl (hb hby d1_25) rfl (feq hc4).2 (by decide) (by decide) ?_
        show Steps p.tables e below (T2.setTop (mkF m 31 #[.val (.int p1), .val (.ref wT), .val (.int (7 : Int32)), .val (.int (0 : Int32)), .val (.ref w_POINT)] [])) _
        refine XS.iinc X2.here hx rfl (hb hby d1_31) rfl (l' := #[.val (.int p1), .val (.ref wT), .val (.int (7 : Int32)), .val (.int (1 : Int32)), .val (.ref w_POINT)]) rfl ?_
        show Steps p.tables e below (T2.setTop (mkF m 34 #[.val (.int p1), .val (.ref wT), .val (.int (7 : Int32)), .val (.int (1 : Int32)), .val (.ref w_POINT)] [])) _
        refine XS.goto X2.here hx rfl (pc0 := 34) (pc' := 9) rfl (hb hby d1_34) (by decide) (by decide) ?_
        show Steps p.tables e below (T2.setTop (mkF m 9 #[.val (.int p1), .val (.ref wT), .val (.int (7 : Int32)), .val (.int (1 : Int32)), .val (.ref w_POINT)] [])) _
        refine XS.iloadN X2.here hx rfl (hb hby d1_9) rfl ?_
        show Steps p.tables e below (T2.setTop (mkF m 10 #[.val (.int p1), .val (.ref wT), .val (.int (7 : Int32)), .val (.int (1 : Int32)), .val (.ref w_POINT)] [(.int (1 : Int32))])) _
        refine XS.iloadN X2.here hx rfl (hb hby d1_10) rfl ?_
        show Steps p.tables e below (T2.setTop (mkF m 11 #[.val (.int p1), .val (.ref wT), .val (.int (7 : Int32)), .val (.int (1 : Int32)), .val (.ref w_POINT)] [(.int (7 : Int32)), (.int (1 : Int32))])) _
        refine XS.icmpNo X2.here hx rfl (hb hby d1_11) rfl (tlt (by decide : (1 : Int32) < (7 : Int32))).2.1 ?_
        show Steps p.tables e below (T2.setTop (mkF m 14 #[.val (.int p1), .val (.ref wT), .val (.int (7 : Int32)), .val (.int (1 : Int32)), .val (.ref w_POINT)] [])) _
        refine XS.aloadN X2.here hx rfl (hb hby d1_14) rfl rfl ?_
        show Steps p.tables e below (T2.setTop (mkF m 15 #[.val (.int p1), .val (.ref wT), .val (.int (7 : Int32)), .val (.int (1 : Int32)), .val (.ref w_POINT)] [(.ref wT)])) _
        refine XS.iloadN X2.here hx rfl (hb hby d1_15) rfl ?_
        show Steps p.tables e below (T2.setTop (mkF m 16 #[.val (.int p1), .val (.ref wT), .val (.int (7 : Int32)), .val (.int (1 : Int32)), .val (.ref w_POINT)] [(.int (1 : Int32)), (.ref wT)])) _
        refine X2.aaload hx (j := (1 : Int32)) (v := (.ref w_LINESTRING)) (by rw [e2]; exact Ar.1) (State.isArrayOf_alike hZ.alike Ar.2.1) rfl Ar.2.2 (inb_of hS ⟨by decide, by decide⟩) A_LINESTRING (g := (mkF m 16 #[.val (.int p1), .val (.ref wT), .val (.int (7 : Int32)), .val (.int (1 : Int32)), .val (.ref w_POINT)] [(.int (1 : Int32)), (.ref wT)])) rfl rfl (hb hby d1_16) _ ?_
        show Steps p.tables e below (T2.setTop (mkF m 17 #[.val (.int p1), .val (.ref wT), .val (.int (7 : Int32)), .val (.int (1 : Int32)), .val (.ref w_POINT)] [(.ref w_LINESTRING)])) _
        refine XS.astore X2.here hx rfl (hb hby d1_17) rfl rfl (l' := #[.val (.int p1), .val (.ref wT), .val (.int (7 : Int32)), .val (.int (1 : Int32)), .val (.ref w_LINESTRING)]) rfl ?_
        show Steps p.tables e below (T2.setTop (mkF m 19 #[.val (.int p1), .val (.ref wT), .val (.int (7 : Int32)), .val (.int (1 : Int32)), .val (.ref w_LINESTRING)] [])) _
        refine XS.aload X2.here hx rfl (hb hby d1_19) rfl rfl ?_
        show Steps p.tables e below (T2.setTop (mkF m 21 #[.val (.int p1), .val (.ref wT), .val (.int (7 : Int32)), .val (.int (1 : Int32)), .val (.ref w_LINESTRING)] [(.ref w_LINESTRING)])) _
        refine st5 _ ?_
        show Steps p.tables e below (T5.setTop (mkF m 24 #[.val (.int p1), .val (.ref wT), .val (.int (7 : Int32)), .val (.int (1 : Int32)), .val (.ref w_LINESTRING)] [(.int (2 : Int32))])) _
        refine XS.iloadN X5.here hx rfl (hb hby d1_24) rfl ?_
        exact k)
    by_cases hc7 : (2 : Int32) = p1
    · obtain ⟨fs, hr, hrun, hended, hW, hsame⟩ := X5.leave (v := some (.ref w_LINESTRING)) (fun h => by rw [Bd.returns] at h; cases h)
      refine ⟨_, _, pre6 _ ?_, hrun, hended, _, _, rfl, ?_, ⟨_, rfl⟩, hW, hsame.mono (by decide) (by decide)⟩
      · show Steps p.tables e below (T5.setTop (mkF m 25 #[.val (.int p1), .val (.ref wT), .val (.int (7 : Int32)), .val (.int (1 : Int32)), .val (.ref w_LINESTRING)] [(.int p1), (.int (2 : Int32))])) _
        refine XS.icmpNo X5.here hx rfl (hb hby d1_25) rfl (teq hc7).2 ?_
        show Steps p.tables e below (T5.setTop (mkF m 28 #[.val (.int p1), .val (.ref wT), .val (.int (7 : Int32)), .val (.int (1 : Int32)), .val (.ref w_LINESTRING)] [])) _
        refine XS.aload X5.here hx rfl (hb hby d1_28) rfl rfl ?_
        show Steps p.tables e below (T5.setTop (mkF m 30 #[.val (.int p1), .val (.ref wT), .val (.int (7 : Int32)), .val (.int (1 : Int32)), .val (.ref w_LINESTRING)] [(.ref w_LINESTRING)])) _
        jvm_step X5.here [X5.here.top, hx, (hb hby d1_30), X5.method', Bd.returns, Value.isRef, FieldType.isReference]
        first | (intro acts; rw [hr _ acts rfl rfl rfl]) | rw [hr _ _ rfl rfl rfl]
        exact Steps.refl _
      · show Q_rm1 Z p1 wT cl w_POINT w_LINESTRING w_POLYGON w_MULTIPOINT w_MULTILINESTRING w_MULTIPOLYGON w_GEOMETRYCOLLECTION r h0 n0 _ T5.heap _
        rw [e5]
        exact ⟨by rw [← hret]; simp only [ofW, if_neg hc4, if_pos hc7], N0, rfl⟩
    · obtain ⟨T8, X8, e8, st8⟩ := getF X5 hx hZ hown (host := "") (Or.inl (hw _ (List.mem_of_getElem? (i := 7) rfl))) Via.refl e5 O_POLYGON (g := (mkF m 21 #[.val (.int p1), .val (.ref wT), .val (.int (7 : Int32)), .val (.int (2 : Int32)), .val (.ref w_POLYGON)] [(.ref w_POLYGON)])) rfl rfl (hb hby d1_21)
      have pre9 : ∀ t, Steps p.tables e below (T8.setTop (mkF m 25 #[.val (.int p1), .val (.ref wT), .val (.int (7 : Int32)), .val (.int (2 : Int32)), .val (.ref w_POLYGON)] [(.int p1), (.int (3 : Int32))])) t → Steps p.tables e below (s₁.setTop (entryFrame m #[(.int p1)] 5)) t := fun t k => pre6 t (by
          show Steps p.tables e below (T5.setTop (mkF m 25 #[.val (.int p1), .val (.ref wT), .val (.int (7 : Int32)), .val (.int (1 : Int32)), .val (.ref w_LINESTRING)] [(.int p1), (.int (2 : Int32))])) _
          refine XS.icmpYes X5.here hx rfl (pc0 := 25) (pc' := 31) rfl (hb hby d1_25) rfl (feq hc7).2 (by decide) (by decide) ?_
          show Steps p.tables e below (T5.setTop (mkF m 31 #[.val (.int p1), .val (.ref wT), .val (.int (7 : Int32)), .val (.int (1 : Int32)), .val (.ref w_LINESTRING)] [])) _
          refine XS.iinc X5.here hx rfl (hb hby d1_31) rfl (l' := #[.val (.int p1), .val (.ref wT), .val (.int (7 : Int32)), .val (.int (2 : Int32)), .val (.ref w_LINESTRING)]) rfl ?_
          show Steps p.tables e below (T5.setTop (mkF m 34 #[.val (.int p1), .val (.ref wT), .val (.int (7 : Int32)), .val (.int (2 : Int32)), .val (.ref w_LINESTRING)] [])) _
          refine XS.goto X5.here hx rfl (pc0 := 34) (pc' := 9) rfl (hb hby d1_34) (by decide) (by decide) ?_
          show Steps p.tables e below (T5.setTop (mkF m 9 #[.val (.int p1), .val (.ref wT), .val (.int (7 : Int32)), .val (.int (2 : Int32)), .val (.ref w_LINESTRING)] [])) _
          refine XS.iloadN X5.here hx rfl (hb hby d1_9) rfl ?_
          show Steps p.tables e below (T5.setTop (mkF m 10 #[.val (.int p1), .val (.ref wT), .val (.int (7 : Int32)), .val (.int (2 : Int32)), .val (.ref w_LINESTRING)] [(.int (2 : Int32))])) _
          refine XS.iloadN X5.here hx rfl (hb hby d1_10) rfl ?_
          show Steps p.tables e below (T5.setTop (mkF m 11 #[.val (.int p1), .val (.ref wT), .val (.int (7 : Int32)), .val (.int (2 : Int32)), .val (.ref w_LINESTRING)] [(.int (7 : Int32)), (.int (2 : Int32))])) _
          refine XS.icmpNo X5.here hx rfl (hb hby d1_11) rfl (tlt (by decide : (2 : Int32) < (7 : Int32))).2.1 ?_
          show Steps p.tables e below (T5.setTop (mkF m 14 #[.val (.int p1), .val (.ref wT), .val (.int (7 : Int32)), .val (.int (2 : Int32)), .val (.ref w_LINESTRING)] [])) _
          refine XS.aloadN X5.here hx rfl (hb hby d1_14) rfl rfl ?_
          show Steps p.tables e below (T5.setTop (mkF m 15 #[.val (.int p1), .val (.ref wT), .val (.int (7 : Int32)), .val (.int (2 : Int32)), .val (.ref w_LINESTRING)] [(.ref wT)])) _
          refine XS.iloadN X5.here hx rfl (hb hby d1_15) rfl ?_
          show Steps p.tables e below (T5.setTop (mkF m 16 #[.val (.int p1), .val (.ref wT), .val (.int (7 : Int32)), .val (.int (2 : Int32)), .val (.ref w_LINESTRING)] [(.int (2 : Int32)), (.ref wT)])) _
          refine X5.aaload hx (j := (2 : Int32)) (v := (.ref w_POLYGON)) (by rw [e5]; exact Ar.1) (State.isArrayOf_alike hZ.alike Ar.2.1) rfl Ar.2.2 (inb_of hS ⟨by decide, by decide⟩) A_POLYGON (g := (mkF m 16 #[.val (.int p1), .val (.ref wT), .val (.int (7 : Int32)), .val (.int (2 : Int32)), .val (.ref w_LINESTRING)] [(.int (2 : Int32)), (.ref wT)])) rfl rfl (hb hby d1_16) _ ?_
          show Steps p.tables e below (T5.setTop (mkF m 17 #[.val (.int p1), .val (.ref wT), .val (.int (7 : Int32)), .val (.int (2 : Int32)), .val (.ref w_LINESTRING)] [(.ref w_POLYGON)])) _
          refine XS.astore X5.here hx rfl (hb hby d1_17) rfl rfl (l' := #[.val (.int p1), .val (.ref wT), .val (.int (7 : Int32)), .val (.int (2 : Int32)), .val (.ref w_POLYGON)]) rfl ?_
          show Steps p.tables e below (T5.setTop (mkF m 19 #[.val (.int p1), .val (.ref wT), .val (.int (7 : Int32)), .val (.int (2 : Int32)), .val (.ref w_POLYGON)] [])) _
          refine XS.aload X5.here hx rfl (hb hby d1_19) rfl rfl ?_
          show Steps p.tables e below (T5.setTop (mkF m 21 #[.val (.int p1), .val (.ref wT), .val (.int (7 : Int32)), .val (.int (2 : Int32)), .val (.ref w_POLYGON)] [(.ref w_POLYGON)])) _
          refine st8 _ ?_
          show Steps p.tables e below (T8.setTop (mkF m 24 #[.val (.int p1), .val (.ref wT), .val (.int (7 : Int32)), .val (.int (2 : Int32)), .val (.ref w_POLYGON)] [(.int (3 : Int32))])) _
          refine XS.iloadN X8.here hx rfl (hb hby d1_24) rfl ?_
          exact k)
      by_cases hc10 : (3 : Int32) = p1
      · obtain ⟨fs, hr, hrun, hended, hW, hsame⟩ := X8.leave (v := some (.ref w_POLYGON)) (fun h => by rw [Bd.returns] at h; cases h)
        refine ⟨_, _, pre9 _ ?_, hrun, hended, _, _, rfl, ?_, ⟨_, rfl⟩, hW, hsame.mono (by decide) (by decide)⟩
        · show Steps p.tables e below (T8.setTop (mkF m 25 #[.val (.int p1), .val (.ref wT), .val (.int (7 : Int32)), .val (.int (2 : Int32)), .val (.ref w_POLYGON)] [(.int p1), (.int (3 : Int32))])) _
          refine XS.icmpNo X8.here hx rfl (hb hby d1_25) rfl (teq hc10).2 ?_
          show Steps p.tables e below (T8.setTop (mkF m 28 #[.val (.int p1), .val (.ref wT), .val (.int (7 : Int32)), .val (.int (2 : Int32)), .val (.ref w_POLYGON)] [])) _
          refine XS.aload X8.here hx rfl (hb hby d1_28) rfl rfl ?_
          show Steps p.tables e below (T8.setTop (mkF m 30 #[.val (.int p1), .val (.ref wT), .val (.int (7 : Int32)), .val (.int (2 : Int32)), .val (.ref w_POLYGON)] [(.ref w_POLYGON)])) _
          jvm_step X8.here [X8.here.top, hx, (hb hby d1_30), X8.method', Bd.returns, Value.isRef, FieldType.isReference]
          first | (intro acts; rw [hr _ acts rfl rfl rfl]) | rw [hr _ _ rfl rfl rfl]
          exact Steps.refl _
        · show Q_rm1 Z p1 wT cl w_POINT w_LINESTRING w_POLYGON w_MULTIPOINT w_MULTILINESTRING w_MULTIPOLYGON w_GEOMETRYCOLLECTION r h0 n0 _ T8.heap _
          rw [e8]
          exact ⟨by rw [← hret]; simp only [ofW, if_neg hc4, if_neg hc7, if_pos hc10], N0, rfl⟩
      · obtain ⟨T11, X11, e11, st11⟩ := getF X8 hx hZ hown (host := "") (Or.inl (hw _ (List.mem_of_getElem? (i := 7) rfl))) Via.refl e8 O_MULTIPOINT (g := (mkF m 21 #[.val (.int p1), .val (.ref wT), .val (.int (7 : Int32)), .val (.int (3 : Int32)), .val (.ref w_MULTIPOINT)] [(.ref w_MULTIPOINT)])) rfl rfl (hb hby d1_21)
        have pre12 : ∀ t, Steps p.tables e below (T11.setTop (mkF m 25 #[.val (.int p1), .val (.ref wT), .val (.int (7 : Int32)), .val (.int (3 : Int32)), .val (.ref w_MULTIPOINT)] [(.int p1), (.int (4 : Int32))])) t → Steps p.tables e below (s₁.setTop (entryFrame m #[(.int p1)] 5)) t := fun t k => pre9 t (by
            show Steps p.tables e below (T8.setTop (mkF m 25 #[.val (.int p1), .val (.ref wT), .val (.int (7 : Int32)), .val (.int (2 : Int32)), .val (.ref w_POLYGON)] [(.int p1), (.int (3 : Int32))])) _
            refine XS.icmpYes X8.here hx rfl (pc0 := 25) (pc' := 31) rfl (hb hby d1_25) rfl (feq hc10).2 (by decide) (by decide) ?_
            show Steps p.tables e below (T8.setTop (mkF m 31 #[.val (.int p1), .val (.ref wT), .val (.int (7 : Int32)), .val (.int (2 : Int32)), .val (.ref w_POLYGON)] [])) _
            refine XS.iinc X8.here hx rfl (hb hby d1_31) rfl (l' := #[.val (.int p1), .val (.ref wT), .val (.int (7 : Int32)), .val (.int (3 : Int32)), .val (.ref w_POLYGON)]) rfl ?_
            show Steps p.tables e below (T8.setTop (mkF m 34 #[.val (.int p1), .val (.ref wT), .val (.int (7 : Int32)), .val (.int (3 : Int32)), .val (.ref w_POLYGON)] [])) _
            refine XS.goto X8.here hx rfl (pc0 := 34) (pc' := 9) rfl (hb hby d1_34) (by decide) (by decide) ?_
            show Steps p.tables e below (T8.setTop (mkF m 9 #[.val (.int p1), .val (.ref wT), .val (.int (7 : Int32)), .val (.int (3 : Int32)), .val (.ref w_POLYGON)] [])) _
            refine XS.iloadN X8.here hx rfl (hb hby d1_9) rfl ?_
            show Steps p.tables e below (T8.setTop (mkF m 10 #[.val (.int p1), .val (.ref wT), .val (.int (7 : Int32)), .val (.int (3 : Int32)), .val (.ref w_POLYGON)] [(.int (3 : Int32))])) _
            refine XS.iloadN X8.here hx rfl (hb hby d1_10) rfl ?_
            show Steps p.tables e below (T8.setTop (mkF m 11 #[.val (.int p1), .val (.ref wT), .val (.int (7 : Int32)), .val (.int (3 : Int32)), .val (.ref w_POLYGON)] [(.int (7 : Int32)), (.int (3 : Int32))])) _
            refine XS.icmpNo X8.here hx rfl (hb hby d1_11) rfl (tlt (by decide : (3 : Int32) < (7 : Int32))).2.1 ?_
            show Steps p.tables e below (T8.setTop (mkF m 14 #[.val (.int p1), .val (.ref wT), .val (.int (7 : Int32)), .val (.int (3 : Int32)), .val (.ref w_POLYGON)] [])) _
            refine XS.aloadN X8.here hx rfl (hb hby d1_14) rfl rfl ?_
            show Steps p.tables e below (T8.setTop (mkF m 15 #[.val (.int p1), .val (.ref wT), .val (.int (7 : Int32)), .val (.int (3 : Int32)), .val (.ref w_POLYGON)] [(.ref wT)])) _
            refine XS.iloadN X8.here hx rfl (hb hby d1_15) rfl ?_
            show Steps p.tables e below (T8.setTop (mkF m 16 #[.val (.int p1), .val (.ref wT), .val (.int (7 : Int32)), .val (.int (3 : Int32)), .val (.ref w_POLYGON)] [(.int (3 : Int32)), (.ref wT)])) _
            refine X8.aaload hx (j := (3 : Int32)) (v := (.ref w_MULTIPOINT)) (by rw [e8]; exact Ar.1) (State.isArrayOf_alike hZ.alike Ar.2.1) rfl Ar.2.2 (inb_of hS ⟨by decide, by decide⟩) A_MULTIPOINT (g := (mkF m 16 #[.val (.int p1), .val (.ref wT), .val (.int (7 : Int32)), .val (.int (3 : Int32)), .val (.ref w_POLYGON)] [(.int (3 : Int32)), (.ref wT)])) rfl rfl (hb hby d1_16) _ ?_
            show Steps p.tables e below (T8.setTop (mkF m 17 #[.val (.int p1), .val (.ref wT), .val (.int (7 : Int32)), .val (.int (3 : Int32)), .val (.ref w_POLYGON)] [(.ref w_MULTIPOINT)])) _
            refine XS.astore X8.here hx rfl (hb hby d1_17) rfl rfl (l' := #[.val (.int p1), .val (.ref wT), .val (.int (7 : Int32)), .val (.int (3 : Int32)), .val (.ref w_MULTIPOINT)]) rfl ?_
            show Steps p.tables e below (T8.setTop (mkF m 19 #[.val (.int p1), .val (.ref wT), .val (.int (7 : Int32)), .val (.int (3 : Int32)), .val (.ref w_MULTIPOINT)] [])) _
            refine XS.aload X8.here hx rfl (hb hby d1_19) rfl rfl ?_
            show Steps p.tables e below (T8.setTop (mkF m 21 #[.val (.int p1), .val (.ref wT), .val (.int (7 : Int32)), .val (.int (3 : Int32)), .val (.ref w_MULTIPOINT)] [(.ref w_MULTIPOINT)])) _
            refine st11 _ ?_
            show Steps p.tables e below (T11.setTop (mkF m 24 #[.val (.int p1), .val (.ref wT), .val (.int (7 : Int32)), .val (.int (3 : Int32)), .val (.ref w_MULTIPOINT)] [(.int (4 : Int32))])) _
            refine XS.iloadN X11.here hx rfl (hb hby d1_24) rfl ?_
            exact k)
        by_cases hc13 : (4 : Int32) = p1
        · obtain ⟨fs, hr, hrun, hended, hW, hsame⟩ := X11.leave (v := some (.ref w_MULTIPOINT)) (fun h => by rw [Bd.returns] at h; cases h)
          refine ⟨_, _, pre12 _ ?_, hrun, hended, _, _, rfl, ?_, ⟨_, rfl⟩, hW, hsame.mono (by decide) (by decide)⟩
          · show Steps p.tables e below (T11.setTop (mkF m 25 #[.val (.int p1), .val (.ref wT), .val (.int (7 : Int32)), .val (.int (3 : Int32)), .val (.ref w_MULTIPOINT)] [(.int p1), (.int (4 : Int32))])) _
            refine XS.icmpNo X11.here hx rfl (hb hby d1_25) rfl (teq hc13).2 ?_
            show Steps p.tables e below (T11.setTop (mkF m 28 #[.val (.int p1), .val (.ref wT), .val (.int (7 : Int32)), .val (.int (3 : Int32)), .val (.ref w_MULTIPOINT)] [])) _
            refine XS.aload X11.here hx rfl (hb hby d1_28) rfl rfl ?_
            show Steps p.tables e below (T11.setTop (mkF m 30 #[.val (.int p1), .val (.ref wT), .val (.int (7 : Int32)), .val (.int (3 : Int32)), .val (.ref w_MULTIPOINT)] [(.ref w_MULTIPOINT)])) _
            jvm_step X11.here [X11.here.top, hx, (hb hby d1_30), X11.method', Bd.returns, Value.isRef, FieldType.isReference]
            first | (intro acts; rw [hr _ acts rfl rfl rfl]) | rw [hr _ _ rfl rfl rfl]
            exact Steps.refl _
          · show Q_rm1 Z p1 wT cl w_POINT w_LINESTRING w_POLYGON w_MULTIPOINT w_MULTILINESTRING w_MULTIPOLYGON w_GEOMETRYCOLLECTION r h0 n0 _ T11.heap _
            rw [e11]
            exact ⟨by rw [← hret]; simp only [ofW, if_neg hc4, if_neg hc7, if_neg hc10, if_pos hc13], N0, rfl⟩
        · obtain ⟨T14, X14, e14, st14⟩ := getF X11 hx hZ hown (host := "") (Or.inl (hw _ (List.mem_of_getElem? (i := 7) rfl))) Via.refl e11 O_MULTILINESTRING (g := (mkF m 21 #[.val (.int p1), .val (.ref wT), .val (.int (7 : Int32)), .val (.int (4 : Int32)), .val (.ref w_MULTILINESTRING)] [(.ref w_MULTILINESTRING)])) rfl rfl (hb hby d1_21)
          have pre15 : ∀ t, Steps p.tables e below (T14.setTop (mkF m 25 #[.val (.int p1), .val (.ref wT), .val (.int (7 : Int32)), .val (.int (4 : Int32)), .val (.ref w_MULTILINESTRING)] [(.int p1), (.int (5 : Int32))])) t → Steps p.tables e below (s₁.setTop (entryFrame m #[(.int p1)] 5)) t := fun t k => pre12 t (by
              show Steps p.tables e below (T11.setTop (mkF m 25 #[.val (.int p1), .val (.ref wT), .val (.int (7 : Int32)), .val (.int (3 : Int32)), .val (.ref w_MULTIPOINT)] [(.int p1), (.int (4 : Int32))])) _
              refine XS.icmpYes X11.here hx rfl (pc0 := 25) (pc' := 31) rfl (hb hby d1_25) rfl (feq hc13).2 (by decide) (by decide) ?_
              show Steps p.tables e below (T11.setTop (mkF m 31 #[.val (.int p1), .val (.ref wT), .val (.int (7 : Int32)), .val (.int (3 : Int32)), .val (.ref w_MULTIPOINT)] [])) _
              refine XS.iinc X11.here hx rfl (hb hby d1_31) rfl (l' := #[.val (.int p1), .val (.ref wT), .val (.int (7 : Int32)), .val (.int (4 : Int32)), .val (.ref w_MULTIPOINT)]) rfl ?_
              show Steps p.tables e below (T11.setTop (mkF m 34 #[.val (.int p1), .val (.ref wT), .val (.int (7 : Int32)), .val (.int (4 : Int32)), .val (.ref w_MULTIPOINT)] [])) _
              refine XS.goto X11.here hx rfl (pc0 := 34) (pc' := 9) rfl (hb hby d1_34) (by decide) (by decide) ?_
              show Steps p.tables e below (T11.setTop (mkF m 9 #[.val (.int p1), .val (.ref wT), .val (.int (7 : Int32)), .val (.int (4 : Int32)), .val (.ref w_MULTIPOINT)] [])) _
              refine XS.iloadN X11.here hx rfl (hb hby d1_9) rfl ?_
              show Steps p.tables e below (T11.setTop (mkF m 10 #[.val (.int p1), .val (.ref wT), .val (.int (7 : Int32)), .val (.int (4 : Int32)), .val (.ref w_MULTIPOINT)] [(.int (4 : Int32))])) _
              refine XS.iloadN X11.here hx rfl (hb hby d1_10) rfl ?_
              show Steps p.tables e below (T11.setTop (mkF m 11 #[.val (.int p1), .val (.ref wT), .val (.int (7 : Int32)), .val (.int (4 : Int32)), .val (.ref w_MULTIPOINT)] [(.int (7 : Int32)), (.int (4 : Int32))])) _
              refine XS.icmpNo X11.here hx rfl (hb hby d1_11) rfl (tlt (by decide : (4 : Int32) < (7 : Int32))).2.1 ?_
              show Steps p.tables e below (T11.setTop (mkF m 14 #[.val (.int p1), .val (.ref wT), .val (.int (7 : Int32)), .val (.int (4 : Int32)), .val (.ref w_MULTIPOINT)] [])) _
              refine XS.aloadN X11.here hx rfl (hb hby d1_14) rfl rfl ?_
              show Steps p.tables e below (T11.setTop (mkF m 15 #[.val (.int p1), .val (.ref wT), .val (.int (7 : Int32)), .val (.int (4 : Int32)), .val (.ref w_MULTIPOINT)] [(.ref wT)])) _
              refine XS.iloadN X11.here hx rfl (hb hby d1_15) rfl ?_
              show Steps p.tables e below (T11.setTop (mkF m 16 #[.val (.int p1), .val (.ref wT), .val (.int (7 : Int32)), .val (.int (4 : Int32)), .val (.ref w_MULTIPOINT)] [(.int (4 : Int32)), (.ref wT)])) _
              refine X11.aaload hx (j := (4 : Int32)) (v := (.ref w_MULTILINESTRING)) (by rw [e11]; exact Ar.1) (State.isArrayOf_alike hZ.alike Ar.2.1) rfl Ar.2.2 (inb_of hS ⟨by decide, by decide⟩) A_MULTILINESTRING (g := (mkF m 16 #[.val (.int p1), .val (.ref wT), .val (.int (7 : Int32)), .val (.int (4 : Int32)), .val (.ref w_MULTIPOINT)] [(.int (4 : Int32)), (.ref wT)])) rfl rfl (hb hby d1_16) _ ?_
              show Steps p.tables e below (T11.setTop (mkF m 17 #[.val (.int p1), .val (.ref wT), .val (.int (7 : Int32)), .val (.int (4 : Int32)), .val (.ref w_MULTIPOINT)] [(.ref w_MULTILINESTRING)])) _
              refine XS.astore X11.here hx rfl (hb hby d1_17) rfl rfl (l' := #[.val (.int p1), .val (.ref wT), .val (.int (7 : Int32)), .val (.int (4 : Int32)), .val (.ref w_MULTILINESTRING)]) rfl ?_
              show Steps p.tables e below (T11.setTop (mkF m 19 #[.val (.int p1), .val (.ref wT), .val (.int (7 : Int32)), .val (.int (4 : Int32)), .val (.ref w_MULTILINESTRING)] [])) _
              refine XS.aload X11.here hx rfl (hb hby d1_19) rfl rfl ?_
              show Steps p.tables e below (T11.setTop (mkF m 21 #[.val (.int p1), .val (.ref wT), .val (.int (7 : Int32)), .val (.int (4 : Int32)), .val (.ref w_MULTILINESTRING)] [(.ref w_MULTILINESTRING)])) _
              refine st14 _ ?_
              show Steps p.tables e below (T14.setTop (mkF m 24 #[.val (.int p1), .val (.ref wT), .val (.int (7 : Int32)), .val (.int (4 : Int32)), .val (.ref w_MULTILINESTRING)] [(.int (5 : Int32))])) _
              refine XS.iloadN X14.here hx rfl (hb hby d1_24) rfl ?_
              exact k)
          by_cases hc16 : (5 : Int32) = p1
          · obtain ⟨fs, hr, hrun, hended, hW, hsame⟩ := X14.leave (v := some (.ref w_MULTILINESTRING)) (fun h => by rw [Bd.returns] at h; cases h)
            refine ⟨_, _, pre15 _ ?_, hrun, hended, _, _, rfl, ?_, ⟨_, rfl⟩, hW, hsame.mono (by decide) (by decide)⟩
            · show Steps p.tables e below (T14.setTop (mkF m 25 #[.val (.int p1), .val (.ref wT), .val (.int (7 : Int32)), .val (.int (4 : Int32)), .val (.ref w_MULTILINESTRING)] [(.int p1), (.int (5 : Int32))])) _
              refine XS.icmpNo X14.here hx rfl (hb hby d1_25) rfl (teq hc16).2 ?_
              show Steps p.tables e below (T14.setTop (mkF m 28 #[.val (.int p1), .val (.ref wT), .val (.int (7 : Int32)), .val (.int (4 : Int32)), .val (.ref w_MULTILINESTRING)] [])) _
              refine XS.aload X14.here hx rfl (hb hby d1_28) rfl rfl ?_
              show Steps p.tables e below (T14.setTop (mkF m 30 #[.val (.int p1), .val (.ref wT), .val (.int (7 : Int32)), .val (.int (4 : Int32)), .val (.ref w_MULTILINESTRING)] [(.ref w_MULTILINESTRING)])) _
              jvm_step X14.here [X14.here.top, hx, (hb hby d1_30), X14.method', Bd.returns, Value.isRef, FieldType.isReference]
              first | (intro acts; rw [hr _ acts rfl rfl rfl]) | rw [hr _ _ rfl rfl rfl]
              exact Steps.refl _
            · show Q_rm1 Z p1 wT cl w_POINT w_LINESTRING w_POLYGON w_MULTIPOINT w_MULTILINESTRING w_MULTIPOLYGON w_GEOMETRYCOLLECTION r h0 n0 _ T14.heap _
              rw [e14]
              exact ⟨by rw [← hret]; simp only [ofW, if_neg hc4, if_neg hc7, if_neg hc10, if_neg hc13, if_pos hc16], N0, rfl⟩
          · obtain ⟨T17, X17, e17, st17⟩ := getF X14 hx hZ hown (host := "") (Or.inl (hw _ (List.mem_of_getElem? (i := 7) rfl))) Via.refl e14 O_MULTIPOLYGON (g := (mkF m 21 #[.val (.int p1), .val (.ref wT), .val (.int (7 : Int32)), .val (.int (5 : Int32)), .val (.ref w_MULTIPOLYGON)] [(.ref w_MULTIPOLYGON)])) rfl rfl (hb hby d1_21)
            have pre18 : ∀ t, Steps p.tables e below (T17.setTop (mkF m 25 #[.val (.int p1), .val (.ref wT), .val (.int (7 : Int32)), .val (.int (5 : Int32)), .val (.ref w_MULTIPOLYGON)] [(.int p1), (.int (6 : Int32))])) t → Steps p.tables e below (s₁.setTop (entryFrame m #[(.int p1)] 5)) t := fun t k => pre15 t (by
                show Steps p.tables e below (T14.setTop (mkF m 25 #[.val (.int p1), .val (.ref wT), .val (.int (7 : Int32)), .val (.int (4 : Int32)), .val (.ref w_MULTILINESTRING)] [(.int p1), (.int (5 : Int32))])) _
                refine XS.icmpYes X14.here hx rfl (pc0 := 25) (pc' := 31) rfl (hb hby d1_25) rfl (feq hc16).2 (by decide) (by decide) ?_
                show Steps p.tables e below (T14.setTop (mkF m 31 #[.val (.int p1), .val (.ref wT), .val (.int (7 : Int32)), .val (.int (4 : Int32)), .val (.ref w_MULTILINESTRING)] [])) _
                refine XS.iinc X14.here hx rfl (hb hby d1_31) rfl (l' := #[.val (.int p1), .val (.ref wT), .val (.int (7 : Int32)), .val (.int (5 : Int32)), .val (.ref w_MULTILINESTRING)]) rfl ?_
                show Steps p.tables e below (T14.setTop (mkF m 34 #[.val (.int p1), .val (.ref wT), .val (.int (7 : Int32)), .val (.int (5 : Int32)), .val (.ref w_MULTILINESTRING)] [])) _
                refine XS.goto X14.here hx rfl (pc0 := 34) (pc' := 9) rfl (hb hby d1_34) (by decide) (by decide) ?_
                show Steps p.tables e below (T14.setTop (mkF m 9 #[.val (.int p1), .val (.ref wT), .val (.int (7 : Int32)), .val (.int (5 : Int32)), .val (.ref w_MULTILINESTRING)] [])) _
                refine XS.iloadN X14.here hx rfl (hb hby d1_9) rfl ?_
                show Steps p.tables e below (T14.setTop (mkF m 10 #[.val (.int p1), .val (.ref wT), .val (.int (7 : Int32)), .val (.int (5 : Int32)), .val (.ref w_MULTILINESTRING)] [(.int (5 : Int32))])) _
                refine XS.iloadN X14.here hx rfl (hb hby d1_10) rfl ?_
                show Steps p.tables e below (T14.setTop (mkF m 11 #[.val (.int p1), .val (.ref wT), .val (.int (7 : Int32)), .val (.int (5 : Int32)), .val (.ref w_MULTILINESTRING)] [(.int (7 : Int32)), (.int (5 : Int32))])) _
                refine XS.icmpNo X14.here hx rfl (hb hby d1_11) rfl (tlt (by decide : (5 : Int32) < (7 : Int32))).2.1 ?_
                show Steps p.tables e below (T14.setTop (mkF m 14 #[.val (.int p1), .val (.ref wT), .val (.int (7 : Int32)), .val (.int (5 : Int32)), .val (.ref w_MULTILINESTRING)] [])) _
                refine XS.aloadN X14.here hx rfl (hb hby d1_14) rfl rfl ?_
                show Steps p.tables e below (T14.setTop (mkF m 15 #[.val (.int p1), .val (.ref wT), .val (.int (7 : Int32)), .val (.int (5 : Int32)), .val (.ref w_MULTILINESTRING)] [(.ref wT)])) _
                refine XS.iloadN X14.here hx rfl (hb hby d1_15) rfl ?_
                show Steps p.tables e below (T14.setTop (mkF m 16 #[.val (.int p1), .val (.ref wT), .val (.int (7 : Int32)), .val (.int (5 : Int32)), .val (.ref w_MULTILINESTRING)] [(.int (5 : Int32)), (.ref wT)])) _
                refine X14.aaload hx (j := (5 : Int32)) (v := (.ref w_MULTIPOLYGON)) (by rw [e14]; exact Ar.1) (State.isArrayOf_alike hZ.alike Ar.2.1) rfl Ar.2.2 (inb_of hS ⟨by decide, by decide⟩) A_MULTIPOLYGON (g := (mkF m 16 #[.val (.int p1), .val (.ref wT), .val (.int (7 : Int32)), .val (.int (5 : Int32)), .val (.ref w_MULTILINESTRING)] [(.int (5 : Int32)), (.ref wT)])) rfl rfl (hb hby d1_16) _ ?_
                show Steps p.tables e below (T14.setTop (mkF m 17 #[.val (.int p1), .val (.ref wT), .val (.int (7 : Int32)), .val (.int (5 : Int32)), .val (.ref w_MULTILINESTRING)] [(.ref w_MULTIPOLYGON)])) _
                refine XS.astore X14.here hx rfl (hb hby d1_17) rfl rfl (l' := #[.val (.int p1), .val (.ref wT), .val (.int (7 : Int32)), .val (.int (5 : Int32)), .val (.ref w_MULTIPOLYGON)]) rfl ?_
                show Steps p.tables e below (T14.setTop (mkF m 19 #[.val (.int p1), .val (.ref wT), .val (.int (7 : Int32)), .val (.int (5 : Int32)), .val (.ref w_MULTIPOLYGON)] [])) _
                refine XS.aload X14.here hx rfl (hb hby d1_19) rfl rfl ?_
                show Steps p.tables e below (T14.setTop (mkF m 21 #[.val (.int p1), .val (.ref wT), .val (.int (7 : Int32)), .val (.int (5 : Int32)), .val (.ref w_MULTIPOLYGON)] [(.ref w_MULTIPOLYGON)])) _
                refine st17 _ ?_
                show Steps p.tables e below (T17.setTop (mkF m 24 #[.val (.int p1), .val (.ref wT), .val (.int (7 : Int32)), .val (.int (5 : Int32)), .val (.ref w_MULTIPOLYGON)] [(.int (6 : Int32))])) _
                refine XS.iloadN X17.here hx rfl (hb hby d1_24) rfl ?_
                exact k)
            by_cases hc19 : (6 : Int32) = p1
            · obtain ⟨fs, hr, hrun, hended, hW, hsame⟩ := X17.leave (v := some (.ref w_MULTIPOLYGON)) (fun h => by rw [Bd.returns] at h; cases h)
              refine ⟨_, _, pre18 _ ?_, hrun, hended, _, _, rfl, ?_, ⟨_, rfl⟩, hW, hsame.mono (by decide) (by decide)⟩
              · show Steps p.tables e below (T17.setTop (mkF m 25 #[.val (.int p1), .val (.ref wT), .val (.int (7 : Int32)), .val (.int (5 : Int32)), .val (.ref w_MULTIPOLYGON)] [(.int p1), (.int (6 : Int32))])) _
                refine XS.icmpNo X17.here hx rfl (hb hby d1_25) rfl (teq hc19).2 ?_
                show Steps p.tables e below (T17.setTop (mkF m 28 #[.val (.int p1), .val (.ref wT), .val (.int (7 : Int32)), .val (.int (5 : Int32)), .val (.ref w_MULTIPOLYGON)] [])) _
                refine XS.aload X17.here hx rfl (hb hby d1_28) rfl rfl ?_
                show Steps p.tables e below (T17.setTop (mkF m 30 #[.val (.int p1), .val (.ref wT), .val (.int (7 : Int32)), .val (.int (5 : Int32)), .val (.ref w_MULTIPOLYGON)] [(.ref w_MULTIPOLYGON)])) _
                jvm_step X17.here [X17.here.top, hx, (hb hby d1_30), X17.method', Bd.returns, Value.isRef, FieldType.isReference]
                first | (intro acts; rw [hr _ acts rfl rfl rfl]) | rw [hr _ _ rfl rfl rfl]
                exact Steps.refl _
              · show Q_rm1 Z p1 wT cl w_POINT w_LINESTRING w_POLYGON w_MULTIPOINT w_MULTILINESTRING w_MULTIPOLYGON w_GEOMETRYCOLLECTION r h0 n0 _ T17.heap _
                rw [e17]
                exact ⟨by rw [← hret]; simp only [ofW, if_neg hc4, if_neg hc7, if_neg hc10, if_neg hc13, if_neg hc16, if_pos hc19], N0, rfl⟩
            · obtain ⟨T20, X20, e20, st20⟩ := getF X17 hx hZ hown (host := "") (Or.inl (hw _ (List.mem_of_getElem? (i := 7) rfl))) Via.refl e17 O_GEOMETRYCOLLECTION (g := (mkF m 21 #[.val (.int p1), .val (.ref wT), .val (.int (7 : Int32)), .val (.int (6 : Int32)), .val (.ref w_GEOMETRYCOLLECTION)] [(.ref w_GEOMETRYCOLLECTION)])) rfl rfl (hb hby d1_21)
              have pre21 : ∀ t, Steps p.tables e below (T20.setTop (mkF m 25 #[.val (.int p1), .val (.ref wT), .val (.int (7 : Int32)), .val (.int (6 : Int32)), .val (.ref w_GEOMETRYCOLLECTION)] [(.int p1), (.int (7 : Int32))])) t → Steps p.tables e below (s₁.setTop (entryFrame m #[(.int p1)] 5)) t := fun t k => pre18 t (by
                  show Steps p.tables e below (T17.setTop (mkF m 25 #[.val (.int p1), .val (.ref wT), .val (.int (7 : Int32)), .val (.int (5 : Int32)), .val (.ref w_MULTIPOLYGON)] [(.int p1), (.int (6 : Int32))])) _
                  refine XS.icmpYes X17.here hx rfl (pc0 := 25) (pc' := 31) rfl (hb hby d1_25) rfl (feq hc19).2 (by decide) (by decide) ?_
                  show Steps p.tables e below (T17.setTop (mkF m 31 #[.val (.int p1), .val (.ref wT), .val (.int (7 : Int32)), .val (.int (5 : Int32)), .val (.ref w_MULTIPOLYGON)] [])) _
                  refine XS.iinc X17.here hx rfl (hb hby d1_31) rfl (l' := #[.val (.int p1), .val (.ref wT), .val (.int (7 : Int32)), .val (.int (6 : Int32)), .val (.ref w_MULTIPOLYGON)]) rfl ?_
                  show Steps p.tables e below (T17.setTop (mkF m 34 #[.val (.int p1), .val (.ref wT), .val (.int (7 : Int32)), .val (.int (6 : Int32)), .val (.ref w_MULTIPOLYGON)] [])) _
                  refine XS.goto X17.here hx rfl (pc0 := 34) (pc' := 9) rfl (hb hby d1_34) (by decide) (by decide) ?_
                  show Steps p.tables e below (T17.setTop (mkF m 9 #[.val (.int p1), .val (.ref wT), .val (.int (7 : Int32)), .val (.int (6 : Int32)), .val (.ref w_MULTIPOLYGON)] [])) _
                  refine XS.iloadN X17.here hx rfl (hb hby d1_9) rfl ?_
                  show Steps p.tables e below (T17.setTop (mkF m 10 #[.val (.int p1), .val (.ref wT), .val (.int (7 : Int32)), .val (.int (6 : Int32)), .val (.ref w_MULTIPOLYGON)] [(.int (6 : Int32))])) _
                  refine XS.iloadN X17.here hx rfl (hb hby d1_10) rfl ?_
                  show Steps p.tables e below (T17.setTop (mkF m 11 #[.val (.int p1), .val (.ref wT), .val (.int (7 : Int32)), .val (.int (6 : Int32)), .val (.ref w_MULTIPOLYGON)] [(.int (7 : Int32)), (.int (6 : Int32))])) _
                  refine XS.icmpNo X17.here hx rfl (hb hby d1_11) rfl (tlt (by decide : (6 : Int32) < (7 : Int32))).2.1 ?_
                  show Steps p.tables e below (T17.setTop (mkF m 14 #[.val (.int p1), .val (.ref wT), .val (.int (7 : Int32)), .val (.int (6 : Int32)), .val (.ref w_MULTIPOLYGON)] [])) _
                  refine XS.aloadN X17.here hx rfl (hb hby d1_14) rfl rfl ?_
                  show Steps p.tables e below (T17.setTop (mkF m 15 #[.val (.int p1), .val (.ref wT), .val (.int (7 : Int32)), .val (.int (6 : Int32)), .val (.ref w_MULTIPOLYGON)] [(.ref wT)])) _
                  refine XS.iloadN X17.here hx rfl (hb hby d1_15) rfl ?_
                  show Steps p.tables e below (T17.setTop (mkF m 16 #[.val (.int p1), .val (.ref wT), .val (.int (7 : Int32)), .val (.int (6 : Int32)), .val (.ref w_MULTIPOLYGON)] [(.int (6 : Int32)), (.ref wT)])) _
                  refine X17.aaload hx (j := (6 : Int32)) (v := (.ref w_GEOMETRYCOLLECTION)) (by rw [e17]; exact Ar.1) (State.isArrayOf_alike hZ.alike Ar.2.1) rfl Ar.2.2 (inb_of hS ⟨by decide, by decide⟩) A_GEOMETRYCOLLECTION (g := (mkF m 16 #[.val (.int p1), .val (.ref wT), .val (.int (7 : Int32)), .val (.int (6 : Int32)), .val (.ref w_MULTIPOLYGON)] [(.int (6 : Int32)), (.ref wT)])) rfl rfl (hb hby d1_16) _ ?_
                  show Steps p.tables e below (T17.setTop (mkF m 17 #[.val (.int p1), .val (.ref wT), .val (.int (7 : Int32)), .val (.int (6 : Int32)), .val (.ref w_MULTIPOLYGON)] [(.ref w_GEOMETRYCOLLECTION)])) _
                  refine XS.astore X17.here hx rfl (hb hby d1_17) rfl rfl (l' := #[.val (.int p1), .val (.ref wT), .val (.int (7 : Int32)), .val (.int (6 : Int32)), .val (.ref w_GEOMETRYCOLLECTION)]) rfl ?_
                  show Steps p.tables e below (T17.setTop (mkF m 19 #[.val (.int p1), .val (.ref wT), .val (.int (7 : Int32)), .val (.int (6 : Int32)), .val (.ref w_GEOMETRYCOLLECTION)] [])) _
                  refine XS.aload X17.here hx rfl (hb hby d1_19) rfl rfl ?_
                  show Steps p.tables e below (T17.setTop (mkF m 21 #[.val (.int p1), .val (.ref wT), .val (.int (7 : Int32)), .val (.int (6 : Int32)), .val (.ref w_GEOMETRYCOLLECTION)] [(.ref w_GEOMETRYCOLLECTION)])) _
                  refine st20 _ ?_
                  show Steps p.tables e below (T20.setTop (mkF m 24 #[.val (.int p1), .val (.ref wT), .val (.int (7 : Int32)), .val (.int (6 : Int32)), .val (.ref w_GEOMETRYCOLLECTION)] [(.int (7 : Int32))])) _
                  refine XS.iloadN X20.here hx rfl (hb hby d1_24) rfl ?_
                  exact k)
              by_cases hc22 : (7 : Int32) = p1
              · obtain ⟨fs, hr, hrun, hended, hW, hsame⟩ := X20.leave (v := some (.ref w_GEOMETRYCOLLECTION)) (fun h => by rw [Bd.returns] at h; cases h)
                refine ⟨_, _, pre21 _ ?_, hrun, hended, _, _, rfl, ?_, ⟨_, rfl⟩, hW, hsame.mono (by decide) (by decide)⟩
                · show Steps p.tables e below (T20.setTop (mkF m 25 #[.val (.int p1), .val (.ref wT), .val (.int (7 : Int32)), .val (.int (6 : Int32)), .val (.ref w_GEOMETRYCOLLECTION)] [(.int p1), (.int (7 : Int32))])) _
                  refine XS.icmpNo X20.here hx rfl (hb hby d1_25) rfl (teq hc22).2 ?_
                  show Steps p.tables e below (T20.setTop (mkF m 28 #[.val (.int p1), .val (.ref wT), .val (.int (7 : Int32)), .val (.int (6 : Int32)), .val (.ref w_GEOMETRYCOLLECTION)] [])) _
                  refine XS.aload X20.here hx rfl (hb hby d1_28) rfl rfl ?_
                  show Steps p.tables e below (T20.setTop (mkF m 30 #[.val (.int p1), .val (.ref wT), .val (.int (7 : Int32)), .val (.int (6 : Int32)), .val (.ref w_GEOMETRYCOLLECTION)] [(.ref w_GEOMETRYCOLLECTION)])) _
                  jvm_step X20.here [X20.here.top, hx, (hb hby d1_30), X20.method', Bd.returns, Value.isRef, FieldType.isReference]
                  first | (intro acts; rw [hr _ acts rfl rfl rfl]) | rw [hr _ _ rfl rfl rfl]
                  exact Steps.refl _
                · show Q_rm1 Z p1 wT cl w_POINT w_LINESTRING w_POLYGON w_MULTIPOINT w_MULTILINESTRING w_MULTIPOLYGON w_GEOMETRYCOLLECTION r h0 n0 _ T20.heap _
                  rw [e20]
                  exact ⟨by rw [← hret]; simp only [ofW, if_neg hc4, if_neg hc7, if_neg hc10, if_neg hc13, if_neg hc16, if_neg hc19, if_pos hc22], N0, rfl⟩
              · obtain ⟨fs, hr, hrun, hended, hW, hsame⟩ := X20.leave (v := some .null) (fun h => by rw [Bd.returns] at h; cases h)
                refine ⟨_, _, pre21 _ ?_, hrun, hended, _, _, rfl, ?_, ⟨_, rfl⟩, hW, hsame.mono (by decide) (by decide)⟩
                · show Steps p.tables e below (T20.setTop (mkF m 25 #[.val (.int p1), .val (.ref wT), .val (.int (7 : Int32)), .val (.int (6 : Int32)), .val (.ref w_GEOMETRYCOLLECTION)] [(.int p1), (.int (7 : Int32))])) _
                  refine XS.icmpYes X20.here hx rfl (pc0 := 25) (pc' := 31) rfl (hb hby d1_25) rfl (feq hc22).2 (by decide) (by decide) ?_
                  show Steps p.tables e below (T20.setTop (mkF m 31 #[.val (.int p1), .val (.ref wT), .val (.int (7 : Int32)), .val (.int (6 : Int32)), .val (.ref w_GEOMETRYCOLLECTION)] [])) _
                  refine XS.iinc X20.here hx rfl (hb hby d1_31) rfl (l' := #[.val (.int p1), .val (.ref wT), .val (.int (7 : Int32)), .val (.int (7 : Int32)), .val (.ref w_GEOMETRYCOLLECTION)]) rfl ?_
                  show Steps p.tables e below (T20.setTop (mkF m 34 #[.val (.int p1), .val (.ref wT), .val (.int (7 : Int32)), .val (.int (7 : Int32)), .val (.ref w_GEOMETRYCOLLECTION)] [])) _
                  refine XS.goto X20.here hx rfl (pc0 := 34) (pc' := 9) rfl (hb hby d1_34) (by decide) (by decide) ?_
                  show Steps p.tables e below (T20.setTop (mkF m 9 #[.val (.int p1), .val (.ref wT), .val (.int (7 : Int32)), .val (.int (7 : Int32)), .val (.ref w_GEOMETRYCOLLECTION)] [])) _
                  refine XS.iloadN X20.here hx rfl (hb hby d1_9) rfl ?_
                  show Steps p.tables e below (T20.setTop (mkF m 10 #[.val (.int p1), .val (.ref wT), .val (.int (7 : Int32)), .val (.int (7 : Int32)), .val (.ref w_GEOMETRYCOLLECTION)] [(.int (7 : Int32))])) _
                  refine XS.iloadN X20.here hx rfl (hb hby d1_10) rfl ?_
                  show Steps p.tables e below (T20.setTop (mkF m 11 #[.val (.int p1), .val (.ref wT), .val (.int (7 : Int32)), .val (.int (7 : Int32)), .val (.ref w_GEOMETRYCOLLECTION)] [(.int (7 : Int32)), (.int (7 : Int32))])) _
                  refine XS.icmpYes X20.here hx rfl (pc0 := 11) (pc' := 37) rfl (hb hby d1_11) rfl (flt (by decide : ¬ ((7 : Int32) < (7 : Int32)))).2.1 (by decide) (by decide) ?_
                  show Steps p.tables e below (T20.setTop (mkF m 37 #[.val (.int p1), .val (.ref wT), .val (.int (7 : Int32)), .val (.int (7 : Int32)), .val (.ref w_GEOMETRYCOLLECTION)] [])) _
                  refine XS.aconstNull X20.here hx rfl (hb hby d1_37) ?_
                  show Steps p.tables e below (T20.setTop (mkF m 38 #[.val (.int p1), .val (.ref wT), .val (.int (7 : Int32)), .val (.int (7 : Int32)), .val (.ref w_GEOMETRYCOLLECTION)] [.null])) _
                  jvm_step X20.here [X20.here.top, hx, (hb hby d1_38), X20.method', Bd.returns, Value.isRef, FieldType.isReference]
                  first | (intro acts; rw [hr _ acts rfl rfl rfl]) | rw [hr _ _ rfl rfl rfl]
                  exact Steps.refl _
                · show Q_rm1 Z p1 wT cl w_POINT w_LINESTRING w_POLYGON w_MULTIPOINT w_MULTILINESTRING w_MULTIPOLYGON w_GEOMETRYCOLLECTION r h0 n0 _ T20.heap _
                  rw [e20]
                  exact ⟨by rw [← hret]; simp only [ofW, if_neg hc4, if_neg hc7, if_neg hc10, if_neg hc13, if_neg hc16, if_neg hc19, if_neg hc22], N0, rfl⟩
theorem d2_0 : decode method_3_code 0 = .ok (.iload_n 0, 1) := by decide +kernel
theorem d2_1 : decode method_3_code 1 = .ok (.iconst 1, 1) := by decide +kernel
theorem d2_2 : decode method_3_code 2 = .ok (.if_icmp .ne 7, 3) := by decide +kernel
theorem d2_5 : decode method_3_code 5 = .ok (.getstatic 18, 3) := by decide +kernel
theorem d2_8 : decode method_3_code 8 = .ok (.areturn, 1) := by decide +kernel
theorem d2_9 : decode method_3_code 9 = .ok (.iload_n 0, 1) := by decide +kernel
theorem d2_10 : decode method_3_code 10 = .ok (.iconst 2, 1) := by decide +kernel
theorem d2_11 : decode method_3_code 11 = .ok (.if_icmp .ne 7, 3) := by decide +kernel
theorem d2_14 : decode method_3_code 14 = .ok (.getstatic 22, 3) := by decide +kernel
theorem d2_17 : decode method_3_code 17 = .ok (.areturn, 1) := by decide +kernel
theorem d2_18 : decode method_3_code 18 = .ok (.iload_n 0, 1) := by decide +kernel
theorem d2_19 : decode method_3_code 19 = .ok (.iconst 3, 1) := by decide +kernel
theorem d2_20 : decode method_3_code 20 = .ok (.if_icmp .ne 7, 3) := by decide +kernel
theorem d2_23 : decode method_3_code 23 = .ok (.getstatic 25, 3) := by decide +kernel
theorem d2_26 : decode method_3_code 26 = .ok (.areturn, 1) := by decide +kernel
theorem d2_27 : decode method_3_code 27 = .ok (.iload_n 0, 1) := by decide +kernel
theorem d2_28 : decode method_3_code 28 = .ok (.iconst 4, 1) := by decide +kernel
theorem d2_29 : decode method_3_code 29 = .ok (.if_icmp .ne 7, 3) := by decide +kernel
theorem d2_32 : decode method_3_code 32 = .ok (.getstatic 28, 3) := by decide +kernel
theorem d2_35 : decode method_3_code 35 = .ok (.areturn, 1) := by decide +kernel
theorem d2_36 : decode method_3_code 36 = .ok (.iload_n 0, 1) := by decide +kernel
theorem d2_37 : decode method_3_code 37 = .ok (.iconst 5, 1) := by decide +kernel
theorem d2_38 : decode method_3_code 38 = .ok (.if_icmp .ne 7, 3) := by decide +kernel
theorem d2_41 : decode method_3_code 41 = .ok (.getstatic 31, 3) := by decide +kernel
theorem d2_44 : decode method_3_code 44 = .ok (.areturn, 1) := by decide +kernel
theorem d2_45 : decode method_3_code 45 = .ok (.iload_n 0, 1) := by decide +kernel
theorem d2_46 : decode method_3_code 46 = .ok (.bipush 6, 2) := by decide +kernel
theorem d2_48 : decode method_3_code 48 = .ok (.if_icmp .ne 7, 3) := by decide +kernel
theorem d2_51 : decode method_3_code 51 = .ok (.getstatic 34, 3) := by decide +kernel
theorem d2_54 : decode method_3_code 54 = .ok (.areturn, 1) := by decide +kernel
theorem d2_55 : decode method_3_code 55 = .ok (.iload_n 0, 1) := by decide +kernel
theorem d2_56 : decode method_3_code 56 = .ok (.bipush 7, 2) := by decide +kernel
theorem d2_58 : decode method_3_code 58 = .ok (.if_icmp .ne 7, 3) := by decide +kernel
theorem d2_61 : decode method_3_code 61 = .ok (.getstatic 37, 3) := by decide +kernel
theorem d2_64 : decode method_3_code 64 = .ok (.areturn, 1) := by decide +kernel
theorem d2_65 : decode method_3_code 65 = .ok (.aconst_null, 1) := by decide +kernel
theorem d2_66 : decode method_3_code 66 = .ok (.areturn, 1) := by decide +kernel
theorem pn_rm2 : plainName "com/example/wellknit/wellknit/GeometryTypeOfCodePinLaw" = true := by first | (simp [plainName, overriddenIn]; done) | decide +kernel
theorem ef_rm2 (m : MethodId) (p1 : Int32) : entryFrame m #[(.int p1)] 1 = mkF m 0 #[.val (.int p1)] [] := by first | (simp [entryFrame, mkF, argsToLocals, Value.category]; done) | rfl
def Q_rm2 (Z : State) (p1 : Int32) (w_POINT : Addr) (w_LINESTRING : Addr) (w_POLYGON : Addr) (w_MULTIPOINT : Addr) (w_MULTILINESTRING : Addr) (w_MULTIPOLYGON : Addr) (w_GEOMETRYCOLLECTION : Addr) (r : Value) (h0 : Heap) (n0 : Nat) (v : Option Value) (h : Heap) (L : List Loc) : Prop := v = some r ∧ Fr n0 L ∧ h = h0
set_option maxRecDepth 65536 in
set_option maxHeartbeats 40000000 in
theorem rm2 (l : Launch) (Z : State) (a0 : Array Value) (hw : ∀ d ∈ tables_1, d.before a0 Z = true) (ws : List Jvm.Cond) (p1 : Int32) (w_POINT : Addr) (w_LINESTRING : Addr) (w_POLYGON : Addr) (w_MULTIPOINT : Addr) (w_MULTILINESTRING : Addr) (w_MULTIPOLYGON : Addr) (w_GEOMETRYCOLLECTION : Addr) (r : Value) (h0 : Heap) (n0 : Nat) (Z0 : n0 ≤ h0.size) (S_POINT : Sta Z h0 "com/example/wellknit/wellknit/GeometryType" "POINT" "Lcom/example/wellknit/wellknit/GeometryType;" (.ref w_POINT)) (S_LINESTRING : Sta Z h0 "com/example/wellknit/wellknit/GeometryType" "LINESTRING" "Lcom/example/wellknit/wellknit/GeometryType;" (.ref w_LINESTRING)) (S_POLYGON : Sta Z h0 "com/example/wellknit/wellknit/GeometryType" "POLYGON" "Lcom/example/wellknit/wellknit/GeometryType;" (.ref w_POLYGON)) (S_MULTIPOINT : Sta Z h0 "com/example/wellknit/wellknit/GeometryType" "MULTIPOINT" "Lcom/example/wellknit/wellknit/GeometryType;" (.ref w_MULTIPOINT)) (S_MULTILINESTRING : Sta Z h0 "com/example/wellknit/wellknit/GeometryType" "MULTILINESTRING" "Lcom/example/wellknit/wellknit/GeometryType;" (.ref w_MULTILINESTRING)) (S_MULTIPOLYGON : Sta Z h0 "com/example/wellknit/wellknit/GeometryType" "MULTIPOLYGON" "Lcom/example/wellknit/wellknit/GeometryType;" (.ref w_MULTIPOLYGON)) (S_GEOMETRYCOLLECTION : Sta Z h0 "com/example/wellknit/wellknit/GeometryType" "GEOMETRYCOLLECTION" "Lcom/example/wellknit/wellknit/GeometryType;" (.ref w_GEOMETRYCOLLECTION)) (hret : exW p1 w_POINT w_LINESTRING w_POLYGON w_MULTIPOINT w_MULTILINESTRING w_MULTIPOLYGON w_GEOMETRYCOLLECTION = r) :
    MetFree l (⟨"com/example/wellknit/wellknit/GeometryTypeOfCodePinLaw", "expected", "(I)Lcom/example/wellknit/wellknit/GeometryType;"⟩ : MethodName) (head1 (Jvm.Cond.code (⟨"com/example/wellknit/wellknit/GeometryTypeOfCodePinLaw", "expected", "(I)Lcom/example/wellknit/wellknit/GeometryType;"⟩ : MethodName) method_3_code 1 (some (.object "com/example/wellknit/wellknit/GeometryType")) :: ws) ({ frames := 0, cells := 0, slots := 0, locals := 0 } : Room)) (fun a U => a = #[(.int p1)] ∧ Z.Warmed39 U.vm ∧ U.heap = h0) (fun _ _ _ _ _ => True) (fun _ U o U' => ∃ v L, o = .returned v ∧ Q_rm2 Z p1 w_POINT w_LINESTRING w_POLYGON w_MULTIPOINT w_MULTILINESTRING w_MULTIPOLYGON w_GEOMETRYCOLLECTION r h0 n0 v U'.heap L ∧ FrameEnd U o U' L ({ frames := 0, cells := 0, slots := 0, locals := 0 } : Room).cells ({ frames := 0, cells := 0, slots := 0, locals := 0 } : Room).slots) := by
  refine MetFree.of_bodySF (plainFor_of_name pn_rm2) hisR ?_
  intro p e s m args below meth c s₁ Bd hml0 hP hK
  obtain ⟨rfl, hZ, hh⟩ := hP
  have hx := Bd.exec
  have hby := Bd.bytes
  have hml : c.maxLocals = 1 := hml0
  have hown : s.vm.findClass "com/example/wellknit/wellknit/GeometryTypeOfCodePinLaw" = some m.cls := findClass_of_methodNamed Bd.named
  have hnm := (name_of_methodNamed Bd.named Bd.method).1
  have X0 : Stand p l e ({ frames := 0, cells := 0, slots := 0, locals := 0 } : Room) s m #[(.int p1)] below meth c s₁ [] 0 0 := Stand.of_body Bd
  have e0 : s₁.heap = h0 := by rw [← hh, Bd.state]; rfl
  have N0 := Fr.nil n0
  have pre0 : ∀ t, Steps p.tables e below (s₁.setTop (mkF m 0 #[.val (.int p1)] [])) t → Steps p.tables e below (s₁.setTop (entryFrame m #[(.int p1)] 1)) t := fun t k => castTop (ef_rm2 m p1) k
  have pre1 : ∀ t, Steps p.tables e below (s₁.setTop (mkF m 2 #[.val (.int p1)] [(.int (1 : Int32)), (.int p1)])) t → Steps p.tables e below (s₁.setTop (entryFrame m #[(.int p1)] 1)) t := fun t k => pre0 t (by
      show Steps p.tables e below (s₁.setTop (mkF m 0 #[.val (.int p1)] [])) _
      refine XS.iloadN X0.here hx rfl (hb hby d2_0) rfl ?_
      show Steps p.tables e below (s₁.setTop (mkF m 1 #[.val (.int p1)] [(.int p1)])) _
      refine XS.iconst X0.here hx rfl (hb hby d2_1) ?_
      exact k)
  by_cases hc2 : p1 = (1 : Int32)
  · obtain ⟨T3, X3, e3, st3⟩ := getS2 X0 hx hZ hown (host := "") (Or.inl (hw _ (List.mem_of_getElem? (i := 22) rfl))) Via.refl e0 S_POINT (g := (mkF m 5 #[.val (.int p1)] [])) rfl (hb hby d2_5)
    obtain ⟨fs, hr, hrun, hended, hW, hsame⟩ := X3.leave (v := some (.ref w_POINT)) (fun h => by rw [Bd.returns] at h; cases h)
    refine ⟨_, _, pre1 _ ?_, hrun, hended, _, _, rfl, ?_, ⟨_, rfl⟩, hW, hsame.mono (by decide) (by decide)⟩
    · show Steps p.tables e below (s₁.setTop (mkF m 2 #[.val (.int p1)] [(.int (1 : Int32)), (.int p1)])) _
      refine XS.icmpNo X0.here hx rfl (hb hby d2_2) rfl (teq hc2).2 ?_
      show Steps p.tables e below (s₁.setTop (mkF m 5 #[.val (.int p1)] [])) _
      refine st3 _ ?_
      show Steps p.tables e below (T3.setTop (mkF m 8 #[.val (.int p1)] [(.ref w_POINT)])) _
      jvm_step X3.here [X3.here.top, hx, (hb hby d2_8), X3.method', Bd.returns, Value.isRef, FieldType.isReference]
      first | (intro acts; rw [hr _ acts rfl rfl rfl]) | rw [hr _ _ rfl rfl rfl]
      exact Steps.refl _
    · show Q_rm2 Z p1 w_POINT w_LINESTRING w_POLYGON w_MULTIPOINT w_MULTILINESTRING w_MULTIPOLYGON w_GEOMETRYCOLLECTION r h0 n0 _ T3.heap _
      rw [e3]
      exact ⟨by rw [← hret]; simp only [exW, if_pos hc2], N0, rfl⟩
  · have pre4 : ∀ t, Steps p.tables e below (s₁.setTop (mkF m 11 #[.val (.int p1)] [(.int (2 : Int32)), (.int p1)])) t → Steps p.tables e below (s₁.setTop (entryFrame m #[(.int p1)] 1)) t := fun t k => pre1 t (by
        show Steps p.tables e below (s₁.setTop (mkF m 2 #[.val (.int p1)] [(.int (1 : Int32)), (.int p1)])) _
        refine XS.icmpYes X0.here hx rfl (pc0 := 2) (pc' := 9) rfl (hb hby d2_2) rfl (feq hc2).2 (by decide) (by decide) ?_
        show Steps p.tables e below (s₁.setTop (mkF m 9 #[.val (.int p1)] [])) _
        refine XS.iloadN X0.here hx rfl (hb hby d2_9) rfl ?_
        show Steps p.tables e below (s₁.setTop (mkF m 10 #[.val (.int p1)] [(.int p1)])) _
        refine XS.iconst X0.here hx rfl (hb hby d2_10) ?_
        exact k)
    by_cases hc5 : p1 = (2 : Int32)
    · obtain ⟨T6, X6, e6, st6⟩ := getS2 X0 hx hZ hown (host := "") (Or.inl (hw _ (List.mem_of_getElem? (i := 20) rfl))) Via.refl e0 S_LINESTRING (g := (mkF m 14 #[.val (.int p1)] [])) rfl (hb hby d2_14)
      obtain ⟨fs, hr, hrun, hended, hW, hsame⟩ := X6.leave (v := some (.ref w_LINESTRING)) (fun h => by rw [Bd.returns] at h; cases h)
      refine ⟨_, _, pre4 _ ?_, hrun, hended, _, _, rfl, ?_, ⟨_, rfl⟩, hW, hsame.mono (by decide) (by decide)⟩
      · show Steps p.tables e below (s₁.setTop (mkF m 11 #[.val (.int p1)] [(.int (2 : Int32)), (.int p1)])) _
        refine XS.icmpNo X0.here hx rfl (hb hby d2_11) rfl (teq hc5).2 ?_
        show Steps p.tables e below (s₁.setTop (mkF m 14 #[.val (.int p1)] [])) _
        refine st6 _ ?_
        show Steps p.tables e below (T6.setTop (mkF m 17 #[.val (.int p1)] [(.ref w_LINESTRING)])) _
        jvm_step X6.here [X6.here.top, hx, (hb hby d2_17), X6.method', Bd.returns, Value.isRef, FieldType.isReference]
        first | (intro acts; rw [hr _ acts rfl rfl rfl]) | rw [hr _ _ rfl rfl rfl]
        exact Steps.refl _
      · show Q_rm2 Z p1 w_POINT w_LINESTRING w_POLYGON w_MULTIPOINT w_MULTILINESTRING w_MULTIPOLYGON w_GEOMETRYCOLLECTION r h0 n0 _ T6.heap _
        rw [e6]
        exact ⟨by rw [← hret]; simp only [exW, if_neg hc2, if_pos hc5], N0, rfl⟩
    · have pre7 : ∀ t, Steps p.tables e below (s₁.setTop (mkF m 20 #[.val (.int p1)] [(.int (3 : Int32)), (.int p1)])) t → Steps p.tables e below (s₁.setTop (entryFrame m #[(.int p1)] 1)) t := fun t k => pre4 t (by
          show Steps p.tables e below (s₁.setTop (mkF m 11 #[.val (.int p1)] [(.int (2 : Int32)), (.int p1)])) _
          refine XS.icmpYes X0.here hx rfl (pc0 := 11) (pc' := 18) rfl (hb hby d2_11) rfl (feq hc5).2 (by decide) (by decide) ?_
          show Steps p.tables e below (s₁.setTop (mkF m 18 #[.val (.int p1)] [])) _
          refine XS.iloadN X0.here hx rfl (hb hby d2_18) rfl ?_
          show Steps p.tables e below (s₁.setTop (mkF m 19 #[.val (.int p1)] [(.int p1)])) _
          refine XS.iconst X0.here hx rfl (hb hby d2_19) ?_
          exact k)
      by_cases hc8 : p1 = (3 : Int32)
      · obtain ⟨T9, X9, e9, st9⟩ := getS2 X0 hx hZ hown (host := "") (Or.inl (hw _ (List.mem_of_getElem? (i := 21) rfl))) Via.refl e0 S_POLYGON (g := (mkF m 23 #[.val (.int p1)] [])) rfl (hb hby d2_23)
        obtain ⟨fs, hr, hrun, hended, hW, hsame⟩ := X9.leave (v := some (.ref w_POLYGON)) (fun h => by rw [Bd.returns] at h; cases h)
        refine ⟨_, _, pre7 _ ?_, hrun, hended, _, _, rfl, ?_, ⟨_, rfl⟩, hW, hsame.mono (by decide) (by decide)⟩
        · show Steps p.tables e below (s₁.setTop (mkF m 20 #[.val (.int p1)] [(.int (3 : Int32)), (.int p1)])) _
          refine XS.icmpNo X0.here hx rfl (hb hby d2_20) rfl (teq hc8).2 ?_
          show Steps p.tables e below (s₁.setTop (mkF m 23 #[.val (.int p1)] [])) _
          refine st9 _ ?_
          show Steps p.tables e below (T9.setTop (mkF m 26 #[.val (.int p1)] [(.ref w_POLYGON)])) _
          jvm_step X9.here [X9.here.top, hx, (hb hby d2_26), X9.method', Bd.returns, Value.isRef, FieldType.isReference]
          first | (intro acts; rw [hr _ acts rfl rfl rfl]) | rw [hr _ _ rfl rfl rfl]
          exact Steps.refl _
        · show Q_rm2 Z p1 w_POINT w_LINESTRING w_POLYGON w_MULTIPOINT w_MULTILINESTRING w_MULTIPOLYGON w_GEOMETRYCOLLECTION r h0 n0 _ T9.heap _
          rw [e9]
          exact ⟨by rw [← hret]; simp only [exW, if_neg hc2, if_neg hc5, if_pos hc8], N0, rfl⟩
      · have pre10 : ∀ t, Steps p.tables e below (s₁.setTop (mkF m 29 #[.val (.int p1)] [(.int (4 : Int32)), (.int p1)])) t → Steps p.tables e below (s₁.setTop (entryFrame m #[(.int p1)] 1)) t := fun t k => pre7 t (by
            show Steps p.tables e below (s₁.setTop (mkF m 20 #[.val (.int p1)] [(.int (3 : Int32)), (.int p1)])) _
            refine XS.icmpYes X0.here hx rfl (pc0 := 20) (pc' := 27) rfl (hb hby d2_20) rfl (feq hc8).2 (by decide) (by decide) ?_
            show Steps p.tables e below (s₁.setTop (mkF m 27 #[.val (.int p1)] [])) _
            refine XS.iloadN X0.here hx rfl (hb hby d2_27) rfl ?_
            show Steps p.tables e below (s₁.setTop (mkF m 28 #[.val (.int p1)] [(.int p1)])) _
            refine XS.iconst X0.here hx rfl (hb hby d2_28) ?_
            exact k)
        by_cases hc11 : p1 = (4 : Int32)
        · obtain ⟨T12, X12, e12, st12⟩ := getS2 X0 hx hZ hown (host := "") (Or.inl (hw _ (List.mem_of_getElem? (i := 19) rfl))) Via.refl e0 S_MULTIPOINT (g := (mkF m 32 #[.val (.int p1)] [])) rfl (hb hby d2_32)
          obtain ⟨fs, hr, hrun, hended, hW, hsame⟩ := X12.leave (v := some (.ref w_MULTIPOINT)) (fun h => by rw [Bd.returns] at h; cases h)
          refine ⟨_, _, pre10 _ ?_, hrun, hended, _, _, rfl, ?_, ⟨_, rfl⟩, hW, hsame.mono (by decide) (by decide)⟩
          · show Steps p.tables e below (s₁.setTop (mkF m 29 #[.val (.int p1)] [(.int (4 : Int32)), (.int p1)])) _
            refine XS.icmpNo X0.here hx rfl (hb hby d2_29) rfl (teq hc11).2 ?_
            show Steps p.tables e below (s₁.setTop (mkF m 32 #[.val (.int p1)] [])) _
            refine st12 _ ?_
            show Steps p.tables e below (T12.setTop (mkF m 35 #[.val (.int p1)] [(.ref w_MULTIPOINT)])) _
            jvm_step X12.here [X12.here.top, hx, (hb hby d2_35), X12.method', Bd.returns, Value.isRef, FieldType.isReference]
            first | (intro acts; rw [hr _ acts rfl rfl rfl]) | rw [hr _ _ rfl rfl rfl]
            exact Steps.refl _
          · show Q_rm2 Z p1 w_POINT w_LINESTRING w_POLYGON w_MULTIPOINT w_MULTILINESTRING w_MULTIPOLYGON w_GEOMETRYCOLLECTION r h0 n0 _ T12.heap _
            rw [e12]
            exact ⟨by rw [← hret]; simp only [exW, if_neg hc2, if_neg hc5, if_neg hc8, if_pos hc11], N0, rfl⟩
        · have pre13 : ∀ t, Steps p.tables e below (s₁.setTop (mkF m 38 #[.val (.int p1)] [(.int (5 : Int32)), (.int p1)])) t → Steps p.tables e below (s₁.setTop (entryFrame m #[(.int p1)] 1)) t := fun t k => pre10 t (by
              show Steps p.tables e below (s₁.setTop (mkF m 29 #[.val (.int p1)] [(.int (4 : Int32)), (.int p1)])) _
              refine XS.icmpYes X0.here hx rfl (pc0 := 29) (pc' := 36) rfl (hb hby d2_29) rfl (feq hc11).2 (by decide) (by decide) ?_
              show Steps p.tables e below (s₁.setTop (mkF m 36 #[.val (.int p1)] [])) _
              refine XS.iloadN X0.here hx rfl (hb hby d2_36) rfl ?_
              show Steps p.tables e below (s₁.setTop (mkF m 37 #[.val (.int p1)] [(.int p1)])) _
              refine XS.iconst X0.here hx rfl (hb hby d2_37) ?_
              exact k)
          by_cases hc14 : p1 = (5 : Int32)
          · obtain ⟨T15, X15, e15, st15⟩ := getS2 X0 hx hZ hown (host := "") (Or.inl (hw _ (List.mem_of_getElem? (i := 24) rfl))) Via.refl e0 S_MULTILINESTRING (g := (mkF m 41 #[.val (.int p1)] [])) rfl (hb hby d2_41)
            obtain ⟨fs, hr, hrun, hended, hW, hsame⟩ := X15.leave (v := some (.ref w_MULTILINESTRING)) (fun h => by rw [Bd.returns] at h; cases h)
            refine ⟨_, _, pre13 _ ?_, hrun, hended, _, _, rfl, ?_, ⟨_, rfl⟩, hW, hsame.mono (by decide) (by decide)⟩
            · show Steps p.tables e below (s₁.setTop (mkF m 38 #[.val (.int p1)] [(.int (5 : Int32)), (.int p1)])) _
              refine XS.icmpNo X0.here hx rfl (hb hby d2_38) rfl (teq hc14).2 ?_
              show Steps p.tables e below (s₁.setTop (mkF m 41 #[.val (.int p1)] [])) _
              refine st15 _ ?_
              show Steps p.tables e below (T15.setTop (mkF m 44 #[.val (.int p1)] [(.ref w_MULTILINESTRING)])) _
              jvm_step X15.here [X15.here.top, hx, (hb hby d2_44), X15.method', Bd.returns, Value.isRef, FieldType.isReference]
              first | (intro acts; rw [hr _ acts rfl rfl rfl]) | rw [hr _ _ rfl rfl rfl]
              exact Steps.refl _
            · show Q_rm2 Z p1 w_POINT w_LINESTRING w_POLYGON w_MULTIPOINT w_MULTILINESTRING w_MULTIPOLYGON w_GEOMETRYCOLLECTION r h0 n0 _ T15.heap _
              rw [e15]
              exact ⟨by rw [← hret]; simp only [exW, if_neg hc2, if_neg hc5, if_neg hc8, if_neg hc11, if_pos hc14], N0, rfl⟩
          · have pre16 : ∀ t, Steps p.tables e below (s₁.setTop (mkF m 48 #[.val (.int p1)] [(.int (6 : Int32)), (.int p1)])) t → Steps p.tables e below (s₁.setTop (entryFrame m #[(.int p1)] 1)) t := fun t k => pre13 t (by
                show Steps p.tables e below (s₁.setTop (mkF m 38 #[.val (.int p1)] [(.int (5 : Int32)), (.int p1)])) _
                refine XS.icmpYes X0.here hx rfl (pc0 := 38) (pc' := 45) rfl (hb hby d2_38) rfl (feq hc14).2 (by decide) (by decide) ?_
                show Steps p.tables e below (s₁.setTop (mkF m 45 #[.val (.int p1)] [])) _
                refine XS.iloadN X0.here hx rfl (hb hby d2_45) rfl ?_
                show Steps p.tables e below (s₁.setTop (mkF m 46 #[.val (.int p1)] [(.int p1)])) _
                refine XS.bipush X0.here hx rfl (hb hby d2_46) ?_
                exact k)
            by_cases hc17 : p1 = (6 : Int32)
            · obtain ⟨T18, X18, e18, st18⟩ := getS2 X0 hx hZ hown (host := "") (Or.inl (hw _ (List.mem_of_getElem? (i := 25) rfl))) Via.refl e0 S_MULTIPOLYGON (g := (mkF m 51 #[.val (.int p1)] [])) rfl (hb hby d2_51)
              obtain ⟨fs, hr, hrun, hended, hW, hsame⟩ := X18.leave (v := some (.ref w_MULTIPOLYGON)) (fun h => by rw [Bd.returns] at h; cases h)
              refine ⟨_, _, pre16 _ ?_, hrun, hended, _, _, rfl, ?_, ⟨_, rfl⟩, hW, hsame.mono (by decide) (by decide)⟩
              · show Steps p.tables e below (s₁.setTop (mkF m 48 #[.val (.int p1)] [(.int (6 : Int32)), (.int p1)])) _
                refine XS.icmpNo X0.here hx rfl (hb hby d2_48) rfl (teq hc17).2 ?_
                show Steps p.tables e below (s₁.setTop (mkF m 51 #[.val (.int p1)] [])) _
                refine st18 _ ?_
                show Steps p.tables e below (T18.setTop (mkF m 54 #[.val (.int p1)] [(.ref w_MULTIPOLYGON)])) _
                jvm_step X18.here [X18.here.top, hx, (hb hby d2_54), X18.method', Bd.returns, Value.isRef, FieldType.isReference]
                first | (intro acts; rw [hr _ acts rfl rfl rfl]) | rw [hr _ _ rfl rfl rfl]
                exact Steps.refl _
              · show Q_rm2 Z p1 w_POINT w_LINESTRING w_POLYGON w_MULTIPOINT w_MULTILINESTRING w_MULTIPOLYGON w_GEOMETRYCOLLECTION r h0 n0 _ T18.heap _
                rw [e18]
                exact ⟨by rw [← hret]; simp only [exW, if_neg hc2, if_neg hc5, if_neg hc8, if_neg hc11, if_neg hc14, if_pos hc17], N0, rfl⟩
            · have pre19 : ∀ t, Steps p.tables e below (s₁.setTop (mkF m 58 #[.val (.int p1)] [(.int (7 : Int32)), (.int p1)])) t → Steps p.tables e below (s₁.setTop (entryFrame m #[(.int p1)] 1)) t := fun t k => pre16 t (by
                  show Steps p.tables e below (s₁.setTop (mkF m 48 #[.val (.int p1)] [(.int (6 : Int32)), (.int p1)])) _
                  refine XS.icmpYes X0.here hx rfl (pc0 := 48) (pc' := 55) rfl (hb hby d2_48) rfl (feq hc17).2 (by decide) (by decide) ?_
                  show Steps p.tables e below (s₁.setTop (mkF m 55 #[.val (.int p1)] [])) _
                  refine XS.iloadN X0.here hx rfl (hb hby d2_55) rfl ?_
                  show Steps p.tables e below (s₁.setTop (mkF m 56 #[.val (.int p1)] [(.int p1)])) _
                  refine XS.bipush X0.here hx rfl (hb hby d2_56) ?_
                  exact k)
              by_cases hc20 : p1 = (7 : Int32)
              · obtain ⟨T21, X21, e21, st21⟩ := getS2 X0 hx hZ hown (host := "") (Or.inl (hw _ (List.mem_of_getElem? (i := 23) rfl))) Via.refl e0 S_GEOMETRYCOLLECTION (g := (mkF m 61 #[.val (.int p1)] [])) rfl (hb hby d2_61)
                obtain ⟨fs, hr, hrun, hended, hW, hsame⟩ := X21.leave (v := some (.ref w_GEOMETRYCOLLECTION)) (fun h => by rw [Bd.returns] at h; cases h)
                refine ⟨_, _, pre19 _ ?_, hrun, hended, _, _, rfl, ?_, ⟨_, rfl⟩, hW, hsame.mono (by decide) (by decide)⟩
                · show Steps p.tables e below (s₁.setTop (mkF m 58 #[.val (.int p1)] [(.int (7 : Int32)), (.int p1)])) _
                  refine XS.icmpNo X0.here hx rfl (hb hby d2_58) rfl (teq hc20).2 ?_
                  show Steps p.tables e below (s₁.setTop (mkF m 61 #[.val (.int p1)] [])) _
                  refine st21 _ ?_
                  show Steps p.tables e below (T21.setTop (mkF m 64 #[.val (.int p1)] [(.ref w_GEOMETRYCOLLECTION)])) _
                  jvm_step X21.here [X21.here.top, hx, (hb hby d2_64), X21.method', Bd.returns, Value.isRef, FieldType.isReference]
                  first | (intro acts; rw [hr _ acts rfl rfl rfl]) | rw [hr _ _ rfl rfl rfl]
                  exact Steps.refl _
                · show Q_rm2 Z p1 w_POINT w_LINESTRING w_POLYGON w_MULTIPOINT w_MULTILINESTRING w_MULTIPOLYGON w_GEOMETRYCOLLECTION r h0 n0 _ T21.heap _
                  rw [e21]
                  exact ⟨by rw [← hret]; simp only [exW, if_neg hc2, if_neg hc5, if_neg hc8, if_neg hc11, if_neg hc14, if_neg hc17, if_pos hc20], N0, rfl⟩
              · obtain ⟨fs, hr, hrun, hended, hW, hsame⟩ := X0.leave (v := some .null) (fun h => by rw [Bd.returns] at h; cases h)
                refine ⟨_, _, pre19 _ ?_, hrun, hended, _, _, rfl, ?_, ⟨_, rfl⟩, hW, hsame.mono (by decide) (by decide)⟩
                · show Steps p.tables e below (s₁.setTop (mkF m 58 #[.val (.int p1)] [(.int (7 : Int32)), (.int p1)])) _
                  refine XS.icmpYes X0.here hx rfl (pc0 := 58) (pc' := 65) rfl (hb hby d2_58) rfl (feq hc20).2 (by decide) (by decide) ?_
                  show Steps p.tables e below (s₁.setTop (mkF m 65 #[.val (.int p1)] [])) _
                  refine XS.aconstNull X0.here hx rfl (hb hby d2_65) ?_
                  show Steps p.tables e below (s₁.setTop (mkF m 66 #[.val (.int p1)] [.null])) _
                  jvm_step X0.here [X0.here.top, hx, (hb hby d2_66), X0.method', Bd.returns, Value.isRef, FieldType.isReference]
                  first | (intro acts; rw [hr _ acts rfl rfl rfl]) | rw [hr _ _ rfl rfl rfl]
                  exact Steps.refl _
                · show Q_rm2 Z p1 w_POINT w_LINESTRING w_POLYGON w_MULTIPOINT w_MULTILINESTRING w_MULTIPOLYGON w_GEOMETRYCOLLECTION r h0 n0 _ s₁.heap _
                  rw [e0]
                  exact ⟨by rw [← hret]; simp only [exW, if_neg hc2, if_neg hc5, if_neg hc8, if_neg hc11, if_neg hc14, if_neg hc17, if_neg hc20], N0, rfl⟩
theorem pn_rm0 : plainName "com/example/wellknit/wellknit/GeometryTypeOfCodePinLaw" = true := by first | (simp [plainName, overriddenIn]; done) | decide +kernel
theorem pd_rm0_0 : parseMethodDescriptor "(I)Lcom/example/wellknit/wellknit/GeometryType;" = some ⟨[.int], some (.object "com/example/wellknit/wellknit/GeometryType")⟩ := by decide +kernel
theorem ef_rm0 (m : MethodId) (p1 : Int32) (p2 : Int32) : entryFrame m #[(.int p1), (.int p2)] maxLocals = mkF m 0 #[.val (.int p1), .val (.int p2), .unset, .unset] [] := by first | (simp [entryFrame, mkF, argsToLocals, Value.category, maxLocals]; done) | rfl
def Q_rm0 (Z : State) (p1 : Int32) (p2 : Int32) (wT : Addr) (cl : Cell) (w_POINT : Addr) (w_LINESTRING : Addr) (w_POLYGON : Addr) (w_MULTIPOINT : Addr) (w_MULTILINESTRING : Addr) (w_MULTIPOLYGON : Addr) (w_GEOMETRYCOLLECTION : Addr) (h0 : Heap) (n0 : Nat) (v : Option Value) (h : Heap) (L : List Loc) : Prop := v = some (.int (1 : Int32)) ∧ Fr n0 L
set_option maxRecDepth 65536 in
set_option maxHeartbeats 40000000 in
theorem rm0 (l : Launch) (Z : State) (a0 : Array Value) (hw : ∀ d ∈ tables_1, d.before a0 Z = true) (ws : List Jvm.Cond) (p1 : Int32) (p2 : Int32) (wT : Addr) (cl : Cell) (w_POINT : Addr) (w_LINESTRING : Addr) (w_POLYGON : Addr) (w_MULTIPOINT : Addr) (w_MULTILINESTRING : Addr) (w_MULTIPOLYGON : Addr) (w_GEOMETRYCOLLECTION : Addr) (h0 : Heap) (n0 : Nat) (Z0 : n0 ≤ h0.size) (S_TYPES : Sta Z h0 "com/example/wellknit/wellknit/GeometryType" "TYPES" "[Lcom/example/wellknit/wellknit/GeometryType;" (.ref wT)) (Ar : Arr Z h0 wT cl (.object "com/example/wellknit/wellknit/GeometryType")) (hS : cl.slots.size = (7 : Int32).toNatClampNeg) (A_POINT : cl.slots[(0 : Int32).toNatClampNeg]? = some (.ref w_POINT)) (A_LINESTRING : cl.slots[(1 : Int32).toNatClampNeg]? = some (.ref w_LINESTRING)) (A_POLYGON : cl.slots[(2 : Int32).toNatClampNeg]? = some (.ref w_POLYGON)) (A_MULTIPOINT : cl.slots[(3 : Int32).toNatClampNeg]? = some (.ref w_MULTIPOINT)) (A_MULTILINESTRING : cl.slots[(4 : Int32).toNatClampNeg]? = some (.ref w_MULTILINESTRING)) (A_MULTIPOLYGON : cl.slots[(5 : Int32).toNatClampNeg]? = some (.ref w_MULTIPOLYGON)) (A_GEOMETRYCOLLECTION : cl.slots[(6 : Int32).toNatClampNeg]? = some (.ref w_GEOMETRYCOLLECTION)) (O_POINT : Fld Z h0 w_POINT "com/example/wellknit/wellknit/GeometryType" "code" "I" (.int (1 : Int32))) (O_LINESTRING : Fld Z h0 w_LINESTRING "com/example/wellknit/wellknit/GeometryType" "code" "I" (.int (2 : Int32))) (O_POLYGON : Fld Z h0 w_POLYGON "com/example/wellknit/wellknit/GeometryType" "code" "I" (.int (3 : Int32))) (O_MULTIPOINT : Fld Z h0 w_MULTIPOINT "com/example/wellknit/wellknit/GeometryType" "code" "I" (.int (4 : Int32))) (O_MULTILINESTRING : Fld Z h0 w_MULTILINESTRING "com/example/wellknit/wellknit/GeometryType" "code" "I" (.int (5 : Int32))) (O_MULTIPOLYGON : Fld Z h0 w_MULTIPOLYGON "com/example/wellknit/wellknit/GeometryType" "code" "I" (.int (6 : Int32))) (O_GEOMETRYCOLLECTION : Fld Z h0 w_GEOMETRYCOLLECTION "com/example/wellknit/wellknit/GeometryType" "code" "I" (.int (7 : Int32))) (S_POINT : Sta Z h0 "com/example/wellknit/wellknit/GeometryType" "POINT" "Lcom/example/wellknit/wellknit/GeometryType;" (.ref w_POINT)) (S_LINESTRING : Sta Z h0 "com/example/wellknit/wellknit/GeometryType" "LINESTRING" "Lcom/example/wellknit/wellknit/GeometryType;" (.ref w_LINESTRING)) (S_POLYGON : Sta Z h0 "com/example/wellknit/wellknit/GeometryType" "POLYGON" "Lcom/example/wellknit/wellknit/GeometryType;" (.ref w_POLYGON)) (S_MULTIPOINT : Sta Z h0 "com/example/wellknit/wellknit/GeometryType" "MULTIPOINT" "Lcom/example/wellknit/wellknit/GeometryType;" (.ref w_MULTIPOINT)) (S_MULTILINESTRING : Sta Z h0 "com/example/wellknit/wellknit/GeometryType" "MULTILINESTRING" "Lcom/example/wellknit/wellknit/GeometryType;" (.ref w_MULTILINESTRING)) (S_MULTIPOLYGON : Sta Z h0 "com/example/wellknit/wellknit/GeometryType" "MULTIPOLYGON" "Lcom/example/wellknit/wellknit/GeometryType;" (.ref w_MULTIPOLYGON)) (S_GEOMETRYCOLLECTION : Sta Z h0 "com/example/wellknit/wellknit/GeometryType" "GEOMETRYCOLLECTION" "Lcom/example/wellknit/wellknit/GeometryType;" (.ref w_GEOMETRYCOLLECTION)) :
    MetFree l x (head1 (Jvm.Cond.code x code maxLocals ret :: ws) room_1) (fun a U => a = #[(.int p1), (.int p2)] ∧ Z.Warmed39 U.vm ∧ U.heap = h0) (fun _ _ _ _ _ => True) (fun _ U o U' => ∃ v L, o = .returned v ∧ Q_rm0 Z p1 p2 wT cl w_POINT w_LINESTRING w_POLYGON w_MULTIPOINT w_MULTILINESTRING w_MULTIPOLYGON w_GEOMETRYCOLLECTION h0 n0 v U'.heap L ∧ FrameEnd U o U' L room_1.cells room_1.slots) := by
  refine MetFree.of_bodySF (plainFor_of_name pn_rm0) hisR ?_
  intro p e s m args below meth c s₁ Bd hml0 hP hK
  obtain ⟨rfl, hZ, hh⟩ := hP
  have hx := Bd.exec
  have hby := Bd.bytes
  have hml : c.maxLocals = 4 := hml0
  have hown : s.vm.findClass "com/example/wellknit/wellknit/GeometryTypeOfCodePinLaw" = some m.cls := findClass_of_methodNamed Bd.named
  have hnm := (name_of_methodNamed Bd.named Bd.method).1
  have X0 : Stand p l e room_1 s m #[(.int p1), (.int p2)] below meth c s₁ [] 0 0 := Stand.of_body Bd
  have e0 : s₁.heap = h0 := by rw [← hh, Bd.state]; rfl
  have N0 := Fr.nil n0
  have pre0 : ∀ t, Steps p.tables e below (s₁.setTop (mkF m 0 #[.val (.int p1), .val (.int p2), .unset, .unset] [])) t → Steps p.tables e below (s₁.setTop (entryFrame m #[(.int p1), (.int p2)] maxLocals)) t := fun t k => castTop (ef_rm0 m p1 p2) k
  have pre1 : ∀ t, Steps p.tables e below (s₁.setTop (mkF m 3 #[.val (.int p1), .val (.int p2), .unset, .unset] [(.int (p2 &&& (1 : Int32)))])) t → Steps p.tables e below (s₁.setTop (entryFrame m #[(.int p1), (.int p2)] maxLocals)) t := fun t k => pre0 t (by
      show Steps p.tables e below (s₁.setTop (mkF m 0 #[.val (.int p1), .val (.int p2), .unset, .unset] [])) _
      refine XS.iloadN X0.here hx rfl (hb hby at_0) rfl ?_
      show Steps p.tables e below (s₁.setTop (mkF m 1 #[.val (.int p1), .val (.int p2), .unset, .unset] [(.int p2)])) _
      refine XS.iconst X0.here hx rfl (hb hby at_1) ?_
      show Steps p.tables e below (s₁.setTop (mkF m 2 #[.val (.int p1), .val (.int p2), .unset, .unset] [(.int (1 : Int32)), (.int p2)])) _
      refine XS.iand X0.here hx rfl (hb hby at_2) rfl ?_
      exact k)
  have pre3 : ∀ t, Steps p.tables e below (s₁.setTop (mkF m 16 #[.val (.int p1), .val (.int p2), .unset, .unset] [(.int (if (p2 &&& (1 : Int32)) = (0 : Int32) then ((p1 &&& (15 : Int32)) - (4 : Int32)) else p1))])) t → Steps p.tables e below (s₁.setTop (entryFrame m #[(.int p1), (.int p2)] maxLocals)) t := fun t k => pre1 t (by
      by_cases hc2 : (p2 &&& (1 : Int32)) = (0 : Int32)
      · show Steps p.tables e below (s₁.setTop (mkF m 3 #[.val (.int p1), .val (.int p2), .unset, .unset] [(.int (p2 &&& (1 : Int32)))])) _
        refine XS.ifYes X0.here hx rfl (pc0 := 3) (pc' := 10) rfl (hb hby at_3) rfl ((if0 _ _).trans (teq hc2).1) (by decide) (by decide) ?_
        show Steps p.tables e below (s₁.setTop (mkF m 10 #[.val (.int p1), .val (.int p2), .unset, .unset] [])) _
        refine XS.iloadN X0.here hx rfl (hb hby at_10) rfl ?_
        show Steps p.tables e below (s₁.setTop (mkF m 11 #[.val (.int p1), .val (.int p2), .unset, .unset] [(.int p1)])) _
        refine XS.bipush X0.here hx rfl (hb hby at_11) ?_
        show Steps p.tables e below (s₁.setTop (mkF m 13 #[.val (.int p1), .val (.int p2), .unset, .unset] [(.int (15 : Int32)), (.int p1)])) _
        refine XS.iand X0.here hx rfl (hb hby at_13) rfl ?_
        show Steps p.tables e below (s₁.setTop (mkF m 14 #[.val (.int p1), .val (.int p2), .unset, .unset] [(.int (p1 &&& (15 : Int32)))])) _
        refine XS.iconst X0.here hx rfl (hb hby at_14) ?_
        show Steps p.tables e below (s₁.setTop (mkF m 15 #[.val (.int p1), .val (.int p2), .unset, .unset] [(.int (4 : Int32)), (.int (p1 &&& (15 : Int32)))])) _
        refine XS.isub X0.here hx rfl (hb hby at_15) rfl ?_
        simp only [if_pos hc2] at k
        exact k
      · show Steps p.tables e below (s₁.setTop (mkF m 3 #[.val (.int p1), .val (.int p2), .unset, .unset] [(.int (p2 &&& (1 : Int32)))])) _
        refine XS.ifNo X0.here hx rfl (hb hby at_3) rfl ((if0 _ _).trans (feq hc2).1) ?_
        show Steps p.tables e below (s₁.setTop (mkF m 6 #[.val (.int p1), .val (.int p2), .unset, .unset] [])) _
        refine XS.iloadN X0.here hx rfl (hb hby at_6) rfl ?_
        show Steps p.tables e below (s₁.setTop (mkF m 7 #[.val (.int p1), .val (.int p2), .unset, .unset] [(.int p1)])) _
        refine XS.goto X0.here hx rfl (pc0 := 7) (pc' := 16) rfl (hb hby at_7) (by decide) (by decide) ?_
        simp only [if_neg hc2] at k
        exact k)
  obtain ⟨k, hk⟩ : ∃ k, k = (if (p2 &&& (1 : Int32)) = (0 : Int32) then ((p1 &&& (15 : Int32)) - (4 : Int32)) else p1) := ⟨_, rfl⟩
  have pre4 : ∀ t, Steps p.tables e below (s₁.setTop (mkF m 16 #[.val (.int p1), .val (.int p2), .unset, .unset] [(.int k)])) t → Steps p.tables e below (s₁.setTop (entryFrame m #[(.int p1), (.int p2)] maxLocals)) t := fun t k => pre3 t (by rw [← hk]; exact k)
  by_cases g0 : k = (1 : Int32)
  · have pre5 : ∀ t, Steps p.tables e below (s₁.setTop (mkF m 16 #[.val (.int p1), .val (.int p2), .unset, .unset] [(.int (1 : Int32))])) t → Steps p.tables e below (s₁.setTop (entryFrame m #[(.int p1), (.int p2)] maxLocals)) t := fun t k => pre4 t (by rw [g0]; exact k)
    obtain ⟨_, _, ⟨T6, L6, k6, n6⟩, -, X6, ⟨Lc6, hQ6, l6, y6, z6⟩, st6⟩ := Jvm.LawKit.callS X0 hx (y := (⟨"com/example/wellknit/wellknit/GeometryType", "ofCode", "(I)Lcom/example/wellknit/wellknit/GeometryType;"⟩ : MethodName)) hown (mvT hZ (hw _ (List.mem_of_getElem? (i := 0) rfl))) (mvT hZ (hw _ (List.mem_of_getElem? (i := 1) rfl))) (mvT hZ (hw _ (List.mem_of_getElem? (i := 2) rfl))) (mvT hZ (hw _ (List.mem_of_getElem? (i := 3) rfl))) (by decide) (backOf (W := 0) (rm1 l Z a0 hw [] (1 : Int32) wT cl w_POINT w_LINESTRING w_POLYGON w_MULTIPOINT w_MULTILINESTRING w_MULTIPOLYGON w_GEOMETRYCOLLECTION (.ref w_POINT) h0 n0 Z0 S_TYPES Ar hS A_POINT A_LINESTRING A_POLYGON A_MULTIPOINT A_MULTILINESTRING A_MULTIPOLYGON A_GEOMETRYCOLLECTION O_POINT O_LINESTRING O_POLYGON O_MULTIPOINT O_MULTILINESTRING O_MULTIPOLYGON O_GEOMETRYCOLLECTION rfl) hZ (hw _ (List.mem_of_getElem? (i := 3) rfl)) (hw _ (List.mem_of_getElem? (i := 2) rfl)) (by decide) (by decide)) (g := (mkF m 18 #[.val (.int p1), .val (.int p2), .val (.int (1 : Int32)), .unset] [(.int (1 : Int32))])) rfl (by rw [hml]; rfl) (argsL := [(.int (1 : Int32))]) (rest := []) (lenOf pd_rm0_0 rfl) rfl (by show 2 * 0 + _ ≤ _; exact Nat.le_of_eq rfl) (hb hby at_18) (fun _ _ => ⟨rfl, e0, (by decide : 0 + 0 ≤ _), (by decide : 0 + 0 ≤ _)⟩)
    dsimp only [Pt.U, Pt.locs, Pt.cells, Pt.slots] at X6 l6 y6 z6 st6 hQ6
    subst l6 y6 z6
    obtain ⟨rfl, N6q, e6⟩ := hQ6
    have N6 := Fr.app N0 N6q
    obtain ⟨_, _, ⟨T7, L7, k7, n7⟩, -, X7, ⟨Lc7, hQ7, l7, y7, z7⟩, st7⟩ := Jvm.LawKit.callS X6 hx (y := (⟨"com/example/wellknit/wellknit/GeometryTypeOfCodePinLaw", "expected", "(I)Lcom/example/wellknit/wellknit/GeometryType;"⟩ : MethodName)) hown (mvT hZ (hw _ (List.mem_of_getElem? (i := 15) rfl))) (mvT hZ (hw _ (List.mem_of_getElem? (i := 16) rfl))) (mvT hZ (hw _ (List.mem_of_getElem? (i := 17) rfl))) (mvT hZ (hw _ (List.mem_of_getElem? (i := 18) rfl))) (by decide) (backOf (W := 1) (rm2 l Z a0 hw [] (1 : Int32) w_POINT w_LINESTRING w_POLYGON w_MULTIPOINT w_MULTILINESTRING w_MULTIPOLYGON w_GEOMETRYCOLLECTION (.ref w_POINT) h0 n0 Z0 S_POINT S_LINESTRING S_POLYGON S_MULTIPOINT S_MULTILINESTRING S_MULTIPOLYGON S_GEOMETRYCOLLECTION rfl) hZ (hw _ (List.mem_of_getElem? (i := 18) rfl)) (hw _ (List.mem_of_getElem? (i := 17) rfl)) (by decide) (by decide)) (g := (mkF m 24 #[.val (.int p1), .val (.int p2), .val (.int (1 : Int32)), .val (.ref w_POINT)] [(.int (1 : Int32)), (.ref w_POINT)])) rfl (by rw [hml]; rfl) (argsL := [(.int (1 : Int32))]) (rest := [(.ref w_POINT)]) (lenOf pd_rm0_0 rfl) rfl (by show 2 * 0 + _ ≤ _; exact Nat.le_of_eq rfl) (hb hby at_24) (fun _ _ => ⟨rfl, e6, (by decide : 0 + 0 ≤ _), (by decide : 0 + 0 ≤ _)⟩)
    dsimp only [Pt.U, Pt.locs, Pt.cells, Pt.slots] at X7 l7 y7 z7 st7 hQ7
    subst l7 y7 z7
    obtain ⟨rfl, N7q, e7⟩ := hQ7
    have N7 := Fr.app N6 N7q
    obtain ⟨fs, hr, hrun, hended, hW, hsame⟩ := X7.leave (v := some (.int (1 : Int32))) (fun h => by rw [Bd.returns] at h; cases h)
    refine ⟨_, _, pre5 _ ?_, hrun, hended, _, _, rfl, ?_, ⟨_, rfl⟩, hW, hsame.mono (by decide) (by decide)⟩
    · show Steps p.tables e below (s₁.setTop (mkF m 16 #[.val (.int p1), .val (.int p2), .unset, .unset] [(.int (1 : Int32))])) _
      refine XS.istoreN X0.here hx rfl (hb hby at_16) rfl (l' := #[.val (.int p1), .val (.int p2), .val (.int (1 : Int32)), .unset]) rfl ?_
      show Steps p.tables e below (s₁.setTop (mkF m 17 #[.val (.int p1), .val (.int p2), .val (.int (1 : Int32)), .unset] [])) _
      refine XS.iloadN X0.here hx rfl (hb hby at_17) rfl ?_
      show Steps p.tables e below (s₁.setTop (mkF m 18 #[.val (.int p1), .val (.int p2), .val (.int (1 : Int32)), .unset] [(.int (1 : Int32))])) _
      refine st6 _ ?_
      show Steps p.tables e below (T6.setTop (mkF m 21 #[.val (.int p1), .val (.int p2), .val (.int (1 : Int32)), .unset] [(.ref w_POINT)])) _
      refine XS.astoreN X6.here hx rfl (hb hby at_21) rfl rfl (l' := #[.val (.int p1), .val (.int p2), .val (.int (1 : Int32)), .val (.ref w_POINT)]) rfl ?_
      show Steps p.tables e below (T6.setTop (mkF m 22 #[.val (.int p1), .val (.int p2), .val (.int (1 : Int32)), .val (.ref w_POINT)] [])) _
      refine XS.aloadN X6.here hx rfl (hb hby at_22) rfl rfl ?_
      show Steps p.tables e below (T6.setTop (mkF m 23 #[.val (.int p1), .val (.int p2), .val (.int (1 : Int32)), .val (.ref w_POINT)] [(.ref w_POINT)])) _
      refine XS.iloadN X6.here hx rfl (hb hby at_23) rfl ?_
      show Steps p.tables e below (T6.setTop (mkF m 24 #[.val (.int p1), .val (.int p2), .val (.int (1 : Int32)), .val (.ref w_POINT)] [(.int (1 : Int32)), (.ref w_POINT)])) _
      refine st7 _ ?_
      show Steps p.tables e below (T7.setTop (mkF m 27 #[.val (.int p1), .val (.int p2), .val (.int (1 : Int32)), .val (.ref w_POINT)] [(.ref w_POINT), (.ref w_POINT)])) _
      refine Jvm.RoadKit.acmp (g := (mkF m 27 #[.val (.int p1), .val (.int p2), .val (.int (1 : Int32)), .val (.ref w_POINT)] [(.ref w_POINT), (.ref w_POINT)])) X7 hx rfl rfl rfl (pc0 := 27) (pc' := 30) (same := true) rfl (hb hby at_27) rfl (decide_eq_true rfl) (by decide) (by decide) ?_
      show Steps p.tables e below (T7.setTop (mkF m 30 #[.val (.int p1), .val (.int p2), .val (.int (1 : Int32)), .val (.ref w_POINT)] [])) _
      refine XS.iconst X7.here hx rfl (hb hby at_30) ?_
      show Steps p.tables e below (T7.setTop (mkF m 31 #[.val (.int p1), .val (.int p2), .val (.int (1 : Int32)), .val (.ref w_POINT)] [(.int (1 : Int32))])) _
      refine XS.goto X7.here hx rfl (pc0 := 31) (pc' := 35) rfl (hb hby at_31) (by decide) (by decide) ?_
      show Steps p.tables e below (T7.setTop (mkF m 35 #[.val (.int p1), .val (.int p2), .val (.int (1 : Int32)), .val (.ref w_POINT)] [(.int (1 : Int32))])) _
      exact retN X7 hx (t := .boolean) Bd.returns (by simp) (hb hby at_35) hr
    · show Q_rm0 Z p1 p2 wT cl w_POINT w_LINESTRING w_POLYGON w_MULTIPOINT w_MULTILINESTRING w_MULTIPOLYGON w_GEOMETRYCOLLECTION h0 n0 _ T7.heap _
      rw [e7]
      exact ⟨rfl, N7⟩
  by_cases g1 : k = (2 : Int32)
  · have pre8 : ∀ t, Steps p.tables e below (s₁.setTop (mkF m 16 #[.val (.int p1), .val (.int p2), .unset, .unset] [(.int (2 : Int32))])) t → Steps p.tables e below (s₁.setTop (entryFrame m #[(.int p1), (.int p2)] maxLocals)) t := fun t k => pre4 t (by rw [g1]; exact k)
    obtain ⟨_, _, ⟨T9, L9, k9, n9⟩, -, X9, ⟨Lc9, hQ9, l9, y9, z9⟩, st9⟩ := Jvm.LawKit.callS X0 hx (y := (⟨"com/example/wellknit/wellknit/GeometryType", "ofCode", "(I)Lcom/example/wellknit/wellknit/GeometryType;"⟩ : MethodName)) hown (mvT hZ (hw _ (List.mem_of_getElem? (i := 0) rfl))) (mvT hZ (hw _ (List.mem_of_getElem? (i := 1) rfl))) (mvT hZ (hw _ (List.mem_of_getElem? (i := 2) rfl))) (mvT hZ (hw _ (List.mem_of_getElem? (i := 3) rfl))) (by decide) (backOf (W := 0) (rm1 l Z a0 hw [] (2 : Int32) wT cl w_POINT w_LINESTRING w_POLYGON w_MULTIPOINT w_MULTILINESTRING w_MULTIPOLYGON w_GEOMETRYCOLLECTION (.ref w_LINESTRING) h0 n0 Z0 S_TYPES Ar hS A_POINT A_LINESTRING A_POLYGON A_MULTIPOINT A_MULTILINESTRING A_MULTIPOLYGON A_GEOMETRYCOLLECTION O_POINT O_LINESTRING O_POLYGON O_MULTIPOINT O_MULTILINESTRING O_MULTIPOLYGON O_GEOMETRYCOLLECTION rfl) hZ (hw _ (List.mem_of_getElem? (i := 3) rfl)) (hw _ (List.mem_of_getElem? (i := 2) rfl)) (by decide) (by decide)) (g := (mkF m 18 #[.val (.int p1), .val (.int p2), .val (.int (2 : Int32)), .unset] [(.int (2 : Int32))])) rfl (by rw [hml]; rfl) (argsL := [(.int (2 : Int32))]) (rest := []) (lenOf pd_rm0_0 rfl) rfl (by show 2 * 0 + _ ≤ _; exact Nat.le_of_eq rfl) (hb hby at_18) (fun _ _ => ⟨rfl, e0, (by decide : 0 + 0 ≤ _), (by decide : 0 + 0 ≤ _)⟩)
    dsimp only [Pt.U, Pt.locs, Pt.cells, Pt.slots] at X9 l9 y9 z9 st9 hQ9
    subst l9 y9 z9
    obtain ⟨rfl, N9q, e9⟩ := hQ9
    have N9 := Fr.app N0 N9q
    obtain ⟨_, _, ⟨T10, L10, k10, n10⟩, -, X10, ⟨Lc10, hQ10, l10, y10, z10⟩, st10⟩ := Jvm.LawKit.callS X9 hx (y := (⟨"com/example/wellknit/wellknit/GeometryTypeOfCodePinLaw", "expected", "(I)Lcom/example/wellknit/wellknit/GeometryType;"⟩ : MethodName)) hown (mvT hZ (hw _ (List.mem_of_getElem? (i := 15) rfl))) (mvT hZ (hw _ (List.mem_of_getElem? (i := 16) rfl))) (mvT hZ (hw _ (List.mem_of_getElem? (i := 17) rfl))) (mvT hZ (hw _ (List.mem_of_getElem? (i := 18) rfl))) (by decide) (backOf (W := 1) (rm2 l Z a0 hw [] (2 : Int32) w_POINT w_LINESTRING w_POLYGON w_MULTIPOINT w_MULTILINESTRING w_MULTIPOLYGON w_GEOMETRYCOLLECTION (.ref w_LINESTRING) h0 n0 Z0 S_POINT S_LINESTRING S_POLYGON S_MULTIPOINT S_MULTILINESTRING S_MULTIPOLYGON S_GEOMETRYCOLLECTION rfl) hZ (hw _ (List.mem_of_getElem? (i := 18) rfl)) (hw _ (List.mem_of_getElem? (i := 17) rfl)) (by decide) (by decide)) (g := (mkF m 24 #[.val (.int p1), .val (.int p2), .val (.int (2 : Int32)), .val (.ref w_LINESTRING)] [(.int (2 : Int32)), (.ref w_LINESTRING)])) rfl (by rw [hml]; rfl) (argsL := [(.int (2 : Int32))]) (rest := [(.ref w_LINESTRING)]) (lenOf pd_rm0_0 rfl) rfl (by show 2 * 0 + _ ≤ _; exact Nat.le_of_eq rfl) (hb hby at_24) (fun _ _ => ⟨rfl, e9, (by decide : 0 + 0 ≤ _), (by decide : 0 + 0 ≤ _)⟩)
    dsimp only [Pt.U, Pt.locs, Pt.cells, Pt.slots] at X10 l10 y10 z10 st10 hQ10
    subst l10 y10 z10
    obtain ⟨rfl, N10q, e10⟩ := hQ10
    have N10 := Fr.app N9 N10q
    obtain ⟨fs, hr, hrun, hended, hW, hsame⟩ := X10.leave (v := some (.int (1 : Int32))) (fun h => by rw [Bd.returns] at h; cases h)
    refine ⟨_, _, pre8 _ ?_, hrun, hended, _, _, rfl, ?_, ⟨_, rfl⟩, hW, hsame.mono (by decide) (by decide)⟩
    · show Steps p.tables e below (s₁.setTop (mkF m 16 #[.val (.int p1), .val (.int p2), .unset, .unset] [(.int (2 : Int32))])) _
      refine XS.istoreN X0.here hx rfl (hb hby at_16) rfl (l' := #[.val (.int p1), .val (.int p2), .val (.int (2 : Int32)), .unset]) rfl ?_
      show Steps p.tables e below (s₁.setTop (mkF m 17 #[.val (.int p1), .val (.int p2), .val (.int (2 : Int32)), .unset] [])) _
      refine XS.iloadN X0.here hx rfl (hb hby at_17) rfl ?_
      show Steps p.tables e below (s₁.setTop (mkF m 18 #[.val (.int p1), .val (.int p2), .val (.int (2 : Int32)), .unset] [(.int (2 : Int32))])) _
      refine st9 _ ?_
      show Steps p.tables e below (T9.setTop (mkF m 21 #[.val (.int p1), .val (.int p2), .val (.int (2 : Int32)), .unset] [(.ref w_LINESTRING)])) _
      refine XS.astoreN X9.here hx rfl (hb hby at_21) rfl rfl (l' := #[.val (.int p1), .val (.int p2), .val (.int (2 : Int32)), .val (.ref w_LINESTRING)]) rfl ?_
      show Steps p.tables e below (T9.setTop (mkF m 22 #[.val (.int p1), .val (.int p2), .val (.int (2 : Int32)), .val (.ref w_LINESTRING)] [])) _
      refine XS.aloadN X9.here hx rfl (hb hby at_22) rfl rfl ?_
      show Steps p.tables e below (T9.setTop (mkF m 23 #[.val (.int p1), .val (.int p2), .val (.int (2 : Int32)), .val (.ref w_LINESTRING)] [(.ref w_LINESTRING)])) _
      refine XS.iloadN X9.here hx rfl (hb hby at_23) rfl ?_
      show Steps p.tables e below (T9.setTop (mkF m 24 #[.val (.int p1), .val (.int p2), .val (.int (2 : Int32)), .val (.ref w_LINESTRING)] [(.int (2 : Int32)), (.ref w_LINESTRING)])) _
      refine st10 _ ?_
      show Steps p.tables e below (T10.setTop (mkF m 27 #[.val (.int p1), .val (.int p2), .val (.int (2 : Int32)), .val (.ref w_LINESTRING)] [(.ref w_LINESTRING), (.ref w_LINESTRING)])) _
      refine Jvm.RoadKit.acmp (g := (mkF m 27 #[.val (.int p1), .val (.int p2), .val (.int (2 : Int32)), .val (.ref w_LINESTRING)] [(.ref w_LINESTRING), (.ref w_LINESTRING)])) X10 hx rfl rfl rfl (pc0 := 27) (pc' := 30) (same := true) rfl (hb hby at_27) rfl (decide_eq_true rfl) (by decide) (by decide) ?_
      show Steps p.tables e below (T10.setTop (mkF m 30 #[.val (.int p1), .val (.int p2), .val (.int (2 : Int32)), .val (.ref w_LINESTRING)] [])) _
      refine XS.iconst X10.here hx rfl (hb hby at_30) ?_
      show Steps p.tables e below (T10.setTop (mkF m 31 #[.val (.int p1), .val (.int p2), .val (.int (2 : Int32)), .val (.ref w_LINESTRING)] [(.int (1 : Int32))])) _
      refine XS.goto X10.here hx rfl (pc0 := 31) (pc' := 35) rfl (hb hby at_31) (by decide) (by decide) ?_
      show Steps p.tables e below (T10.setTop (mkF m 35 #[.val (.int p1), .val (.int p2), .val (.int (2 : Int32)), .val (.ref w_LINESTRING)] [(.int (1 : Int32))])) _
      exact retN X10 hx (t := .boolean) Bd.returns (by simp) (hb hby at_35) hr
    · show Q_rm0 Z p1 p2 wT cl w_POINT w_LINESTRING w_POLYGON w_MULTIPOINT w_MULTILINESTRING w_MULTIPOLYGON w_GEOMETRYCOLLECTION h0 n0 _ T10.heap _
      rw [e10]
      exact ⟨rfl, N10⟩
  by_cases g2 : k = (3 : Int32)
  · have pre11 : ∀ t, Steps p.tables e below (s₁.setTop (mkF m 16 #[.val (.int p1), .val (.int p2), .unset, .unset] [(.int (3 : Int32))])) t → Steps p.tables e below (s₁.setTop (entryFrame m #[(.int p1), (.int p2)] maxLocals)) t := fun t k => pre4 t (by rw [g2]; exact k)
    obtain ⟨_, _, ⟨T12, L12, k12, n12⟩, -, X12, ⟨Lc12, hQ12, l12, y12, z12⟩, st12⟩ := Jvm.LawKit.callS X0 hx (y := (⟨"com/example/wellknit/wellknit/GeometryType", "ofCode", "(I)Lcom/example/wellknit/wellknit/GeometryType;"⟩ : MethodName)) hown (mvT hZ (hw _ (List.mem_of_getElem? (i := 0) rfl))) (mvT hZ (hw _ (List.mem_of_getElem? (i := 1) rfl))) (mvT hZ (hw _ (List.mem_of_getElem? (i := 2) rfl))) (mvT hZ (hw _ (List.mem_of_getElem? (i := 3) rfl))) (by decide) (backOf (W := 0) (rm1 l Z a0 hw [] (3 : Int32) wT cl w_POINT w_LINESTRING w_POLYGON w_MULTIPOINT w_MULTILINESTRING w_MULTIPOLYGON w_GEOMETRYCOLLECTION (.ref w_POLYGON) h0 n0 Z0 S_TYPES Ar hS A_POINT A_LINESTRING A_POLYGON A_MULTIPOINT A_MULTILINESTRING A_MULTIPOLYGON A_GEOMETRYCOLLECTION O_POINT O_LINESTRING O_POLYGON O_MULTIPOINT O_MULTILINESTRING O_MULTIPOLYGON O_GEOMETRYCOLLECTION rfl) hZ (hw _ (List.mem_of_getElem? (i := 3) rfl)) (hw _ (List.mem_of_getElem? (i := 2) rfl)) (by decide) (by decide)) (g := (mkF m 18 #[.val (.int p1), .val (.int p2), .val (.int (3 : Int32)), .unset] [(.int (3 : Int32))])) rfl (by rw [hml]; rfl) (argsL := [(.int (3 : Int32))]) (rest := []) (lenOf pd_rm0_0 rfl) rfl (by show 2 * 0 + _ ≤ _; exact Nat.le_of_eq rfl) (hb hby at_18) (fun _ _ => ⟨rfl, e0, (by decide : 0 + 0 ≤ _), (by decide : 0 + 0 ≤ _)⟩)
    dsimp only [Pt.U, Pt.locs, Pt.cells, Pt.slots] at X12 l12 y12 z12 st12 hQ12
    subst l12 y12 z12
    obtain ⟨rfl, N12q, e12⟩ := hQ12
    have N12 := Fr.app N0 N12q
    obtain ⟨_, _, ⟨T13, L13, k13, n13⟩, -, X13, ⟨Lc13, hQ13, l13, y13, z13⟩, st13⟩ := Jvm.LawKit.callS X12 hx (y := (⟨"com/example/wellknit/wellknit/GeometryTypeOfCodePinLaw", "expected", "(I)Lcom/example/wellknit/wellknit/GeometryType;"⟩ : MethodName)) hown (mvT hZ (hw _ (List.mem_of_getElem? (i := 15) rfl))) (mvT hZ (hw _ (List.mem_of_getElem? (i := 16) rfl))) (mvT hZ (hw _ (List.mem_of_getElem? (i := 17) rfl))) (mvT hZ (hw _ (List.mem_of_getElem? (i := 18) rfl))) (by decide) (backOf (W := 1) (rm2 l Z a0 hw [] (3 : Int32) w_POINT w_LINESTRING w_POLYGON w_MULTIPOINT w_MULTILINESTRING w_MULTIPOLYGON w_GEOMETRYCOLLECTION (.ref w_POLYGON) h0 n0 Z0 S_POINT S_LINESTRING S_POLYGON S_MULTIPOINT S_MULTILINESTRING S_MULTIPOLYGON S_GEOMETRYCOLLECTION rfl) hZ (hw _ (List.mem_of_getElem? (i := 18) rfl)) (hw _ (List.mem_of_getElem? (i := 17) rfl)) (by decide) (by decide)) (g := (mkF m 24 #[.val (.int p1), .val (.int p2), .val (.int (3 : Int32)), .val (.ref w_POLYGON)] [(.int (3 : Int32)), (.ref w_POLYGON)])) rfl (by rw [hml]; rfl) (argsL := [(.int (3 : Int32))]) (rest := [(.ref w_POLYGON)]) (lenOf pd_rm0_0 rfl) rfl (by show 2 * 0 + _ ≤ _; exact Nat.le_of_eq rfl) (hb hby at_24) (fun _ _ => ⟨rfl, e12, (by decide : 0 + 0 ≤ _), (by decide : 0 + 0 ≤ _)⟩)
    dsimp only [Pt.U, Pt.locs, Pt.cells, Pt.slots] at X13 l13 y13 z13 st13 hQ13
    subst l13 y13 z13
    obtain ⟨rfl, N13q, e13⟩ := hQ13
    have N13 := Fr.app N12 N13q
    obtain ⟨fs, hr, hrun, hended, hW, hsame⟩ := X13.leave (v := some (.int (1 : Int32))) (fun h => by rw [Bd.returns] at h; cases h)
    refine ⟨_, _, pre11 _ ?_, hrun, hended, _, _, rfl, ?_, ⟨_, rfl⟩, hW, hsame.mono (by decide) (by decide)⟩
    · show Steps p.tables e below (s₁.setTop (mkF m 16 #[.val (.int p1), .val (.int p2), .unset, .unset] [(.int (3 : Int32))])) _
      refine XS.istoreN X0.here hx rfl (hb hby at_16) rfl (l' := #[.val (.int p1), .val (.int p2), .val (.int (3 : Int32)), .unset]) rfl ?_
      show Steps p.tables e below (s₁.setTop (mkF m 17 #[.val (.int p1), .val (.int p2), .val (.int (3 : Int32)), .unset] [])) _
      refine XS.iloadN X0.here hx rfl (hb hby at_17) rfl ?_
      show Steps p.tables e below (s₁.setTop (mkF m 18 #[.val (.int p1), .val (.int p2), .val (.int (3 : Int32)), .unset] [(.int (3 : Int32))])) _
      refine st12 _ ?_
      show Steps p.tables e below (T12.setTop (mkF m 21 #[.val (.int p1), .val (.int p2), .val (.int (3 : Int32)), .unset] [(.ref w_POLYGON)])) _
      refine XS.astoreN X12.here hx rfl (hb hby at_21) rfl rfl (l' := #[.val (.int p1), .val (.int p2), .val (.int (3 : Int32)), .val (.ref w_POLYGON)]) rfl ?_
      show Steps p.tables e below (T12.setTop (mkF m 22 #[.val (.int p1), .val (.int p2), .val (.int (3 : Int32)), .val (.ref w_POLYGON)] [])) _
      refine XS.aloadN X12.here hx rfl (hb hby at_22) rfl rfl ?_
      show Steps p.tables e below (T12.setTop (mkF m 23 #[.val (.int p1), .val (.int p2), .val (.int (3 : Int32)), .val (.ref w_POLYGON)] [(.ref w_POLYGON)])) _
      refine XS.iloadN X12.here hx rfl (hb hby at_23) rfl ?_
      show Steps p.tables e below (T12.setTop (mkF m 24 #[.val (.int p1), .val (.int p2), .val (.int (3 : Int32)), .val (.ref w_POLYGON)] [(.int (3 : Int32)), (.ref w_POLYGON)])) _
      refine st13 _ ?_
      show Steps p.tables e below (T13.setTop (mkF m 27 #[.val (.int p1), .val (.int p2), .val (.int (3 : Int32)), .val (.ref w_POLYGON)] [(.ref w_POLYGON), (.ref w_POLYGON)])) _
      refine Jvm.RoadKit.acmp (g := (mkF m 27 #[.val (.int p1), .val (.int p2), .val (.int (3 : Int32)), .val (.ref w_POLYGON)] [(.ref w_POLYGON), (.ref w_POLYGON)])) X13 hx rfl rfl rfl (pc0 := 27) (pc' := 30) (same := true) rfl (hb hby at_27) rfl (decide_eq_true rfl) (by decide) (by decide) ?_
      show Steps p.tables e below (T13.setTop (mkF m 30 #[.val (.int p1), .val (.int p2), .val (.int (3 : Int32)), .val (.ref w_POLYGON)] [])) _
      refine XS.iconst X13.here hx rfl (hb hby at_30) ?_
      show Steps p.tables e below (T13.setTop (mkF m 31 #[.val (.int p1), .val (.int p2), .val (.int (3 : Int32)), .val (.ref w_POLYGON)] [(.int (1 : Int32))])) _
      refine XS.goto X13.here hx rfl (pc0 := 31) (pc' := 35) rfl (hb hby at_31) (by decide) (by decide) ?_
      show Steps p.tables e below (T13.setTop (mkF m 35 #[.val (.int p1), .val (.int p2), .val (.int (3 : Int32)), .val (.ref w_POLYGON)] [(.int (1 : Int32))])) _
      exact retN X13 hx (t := .boolean) Bd.returns (by simp) (hb hby at_35) hr
    · show Q_rm0 Z p1 p2 wT cl w_POINT w_LINESTRING w_POLYGON w_MULTIPOINT w_MULTILINESTRING w_MULTIPOLYGON w_GEOMETRYCOLLECTION h0 n0 _ T13.heap _
      rw [e13]
      exact ⟨rfl, N13⟩
  by_cases g3 : k = (4 : Int32)
  · have pre14 : ∀ t, Steps p.tables e below (s₁.setTop (mkF m 16 #[.val (.int p1), .val (.int p2), .unset, .unset] [(.int (4 : Int32))])) t → Steps p.tables e below (s₁.setTop (entryFrame m #[(.int p1), (.int p2)] maxLocals)) t := fun t k => pre4 t (by rw [g3]; exact k)
    obtain ⟨_, _, ⟨T15, L15, k15, n15⟩, -, X15, ⟨Lc15, hQ15, l15, y15, z15⟩, st15⟩ := Jvm.LawKit.callS X0 hx (y := (⟨"com/example/wellknit/wellknit/GeometryType", "ofCode", "(I)Lcom/example/wellknit/wellknit/GeometryType;"⟩ : MethodName)) hown (mvT hZ (hw _ (List.mem_of_getElem? (i := 0) rfl))) (mvT hZ (hw _ (List.mem_of_getElem? (i := 1) rfl))) (mvT hZ (hw _ (List.mem_of_getElem? (i := 2) rfl))) (mvT hZ (hw _ (List.mem_of_getElem? (i := 3) rfl))) (by decide) (backOf (W := 0) (rm1 l Z a0 hw [] (4 : Int32) wT cl w_POINT w_LINESTRING w_POLYGON w_MULTIPOINT w_MULTILINESTRING w_MULTIPOLYGON w_GEOMETRYCOLLECTION (.ref w_MULTIPOINT) h0 n0 Z0 S_TYPES Ar hS A_POINT A_LINESTRING A_POLYGON A_MULTIPOINT A_MULTILINESTRING A_MULTIPOLYGON A_GEOMETRYCOLLECTION O_POINT O_LINESTRING O_POLYGON O_MULTIPOINT O_MULTILINESTRING O_MULTIPOLYGON O_GEOMETRYCOLLECTION rfl) hZ (hw _ (List.mem_of_getElem? (i := 3) rfl)) (hw _ (List.mem_of_getElem? (i := 2) rfl)) (by decide) (by decide)) (g := (mkF m 18 #[.val (.int p1), .val (.int p2), .val (.int (4 : Int32)), .unset] [(.int (4 : Int32))])) rfl (by rw [hml]; rfl) (argsL := [(.int (4 : Int32))]) (rest := []) (lenOf pd_rm0_0 rfl) rfl (by show 2 * 0 + _ ≤ _; exact Nat.le_of_eq rfl) (hb hby at_18) (fun _ _ => ⟨rfl, e0, (by decide : 0 + 0 ≤ _), (by decide : 0 + 0 ≤ _)⟩)
    dsimp only [Pt.U, Pt.locs, Pt.cells, Pt.slots] at X15 l15 y15 z15 st15 hQ15
    subst l15 y15 z15
    obtain ⟨rfl, N15q, e15⟩ := hQ15
    have N15 := Fr.app N0 N15q
    obtain ⟨_, _, ⟨T16, L16, k16, n16⟩, -, X16, ⟨Lc16, hQ16, l16, y16, z16⟩, st16⟩ := Jvm.LawKit.callS X15 hx (y := (⟨"com/example/wellknit/wellknit/GeometryTypeOfCodePinLaw", "expected", "(I)Lcom/example/wellknit/wellknit/GeometryType;"⟩ : MethodName)) hown (mvT hZ (hw _ (List.mem_of_getElem? (i := 15) rfl))) (mvT hZ (hw _ (List.mem_of_getElem? (i := 16) rfl))) (mvT hZ (hw _ (List.mem_of_getElem? (i := 17) rfl))) (mvT hZ (hw _ (List.mem_of_getElem? (i := 18) rfl))) (by decide) (backOf (W := 1) (rm2 l Z a0 hw [] (4 : Int32) w_POINT w_LINESTRING w_POLYGON w_MULTIPOINT w_MULTILINESTRING w_MULTIPOLYGON w_GEOMETRYCOLLECTION (.ref w_MULTIPOINT) h0 n0 Z0 S_POINT S_LINESTRING S_POLYGON S_MULTIPOINT S_MULTILINESTRING S_MULTIPOLYGON S_GEOMETRYCOLLECTION rfl) hZ (hw _ (List.mem_of_getElem? (i := 18) rfl)) (hw _ (List.mem_of_getElem? (i := 17) rfl)) (by decide) (by decide)) (g := (mkF m 24 #[.val (.int p1), .val (.int p2), .val (.int (4 : Int32)), .val (.ref w_MULTIPOINT)] [(.int (4 : Int32)), (.ref w_MULTIPOINT)])) rfl (by rw [hml]; rfl) (argsL := [(.int (4 : Int32))]) (rest := [(.ref w_MULTIPOINT)]) (lenOf pd_rm0_0 rfl) rfl (by show 2 * 0 + _ ≤ _; exact Nat.le_of_eq rfl) (hb hby at_24) (fun _ _ => ⟨rfl, e15, (by decide : 0 + 0 ≤ _), (by decide : 0 + 0 ≤ _)⟩)
    dsimp only [Pt.U, Pt.locs, Pt.cells, Pt.slots] at X16 l16 y16 z16 st16 hQ16
    subst l16 y16 z16
    obtain ⟨rfl, N16q, e16⟩ := hQ16
    have N16 := Fr.app N15 N16q
    obtain ⟨fs, hr, hrun, hended, hW, hsame⟩ := X16.leave (v := some (.int (1 : Int32))) (fun h => by rw [Bd.returns] at h; cases h)
    refine ⟨_, _, pre14 _ ?_, hrun, hended, _, _, rfl, ?_, ⟨_, rfl⟩, hW, hsame.mono (by decide) (by decide)⟩
    · show Steps p.tables e below (s₁.setTop (mkF m 16 #[.val (.int p1), .val (.int p2), .unset, .unset] [(.int (4 : Int32))])) _
      refine XS.istoreN X0.here hx rfl (hb hby at_16) rfl (l' := #[.val (.int p1), .val (.int p2), .val (.int (4 : Int32)), .unset]) rfl ?_
      show Steps p.tables e below (s₁.setTop (mkF m 17 #[.val (.int p1), .val (.int p2), .val (.int (4 : Int32)), .unset] [])) _
      refine XS.iloadN X0.here hx rfl (hb hby at_17) rfl ?_
      show Steps p.tables e below (s₁.setTop (mkF m 18 #[.val (.int p1), .val (.int p2), .val (.int (4 : Int32)), .unset] [(.int (4 : Int32))])) _
      refine st15 _ ?_
      show Steps p.tables e below (T15.setTop (mkF m 21 #[.val (.int p1), .val (.int p2), .val (.int (4 : Int32)), .unset] [(.ref w_MULTIPOINT)])) _
      refine XS.astoreN X15.here hx rfl (hb hby at_21) rfl rfl (l' := #[.val (.int p1), .val (.int p2), .val (.int (4 : Int32)), .val (.ref w_MULTIPOINT)]) rfl ?_
      show Steps p.tables e below (T15.setTop (mkF m 22 #[.val (.int p1), .val (.int p2), .val (.int (4 : Int32)), .val (.ref w_MULTIPOINT)] [])) _
      refine XS.aloadN X15.here hx rfl (hb hby at_22) rfl rfl ?_
      show Steps p.tables e below (T15.setTop (mkF m 23 #[.val (.int p1), .val (.int p2), .val (.int (4 : Int32)), .val (.ref w_MULTIPOINT)] [(.ref w_MULTIPOINT)])) _
      refine XS.iloadN X15.here hx rfl (hb hby at_23) rfl ?_
      show Steps p.tables e below (T15.setTop (mkF m 24 #[.val (.int p1), .val (.int p2), .val (.int (4 : Int32)), .val (.ref w_MULTIPOINT)] [(.int (4 : Int32)), (.ref w_MULTIPOINT)])) _
      refine st16 _ ?_
      show Steps p.tables e below (T16.setTop (mkF m 27 #[.val (.int p1), .val (.int p2), .val (.int (4 : Int32)), .val (.ref w_MULTIPOINT)] [(.ref w_MULTIPOINT), (.ref w_MULTIPOINT)])) _
      refine Jvm.RoadKit.acmp (g := (mkF m 27 #[.val (.int p1), .val (.int p2), .val (.int (4 : Int32)), .val (.ref w_MULTIPOINT)] [(.ref w_MULTIPOINT), (.ref w_MULTIPOINT)])) X16 hx rfl rfl rfl (pc0 := 27) (pc' := 30) (same := true) rfl (hb hby at_27) rfl (decide_eq_true rfl) (by decide) (by decide) ?_
      show Steps p.tables e below (T16.setTop (mkF m 30 #[.val (.int p1), .val (.int p2), .val (.int (4 : Int32)), .val (.ref w_MULTIPOINT)] [])) _
      refine XS.iconst X16.here hx rfl (hb hby at_30) ?_
      show Steps p.tables e below (T16.setTop (mkF m 31 #[.val (.int p1), .val (.int p2), .val (.int (4 : Int32)), .val (.ref w_MULTIPOINT)] [(.int (1 : Int32))])) _
      refine XS.goto X16.here hx rfl (pc0 := 31) (pc' := 35) rfl (hb hby at_31) (by decide) (by decide) ?_
      show Steps p.tables e below (T16.setTop (mkF m 35 #[.val (.int p1), .val (.int p2), .val (.int (4 : Int32)), .val (.ref w_MULTIPOINT)] [(.int (1 : Int32))])) _
      exact retN X16 hx (t := .boolean) Bd.returns (by simp) (hb hby at_35) hr
    · show Q_rm0 Z p1 p2 wT cl w_POINT w_LINESTRING w_POLYGON w_MULTIPOINT w_MULTILINESTRING w_MULTIPOLYGON w_GEOMETRYCOLLECTION h0 n0 _ T16.heap _
      rw [e16]
      exact ⟨rfl, N16⟩
  by_cases g4 : k = (5 : Int32)
  · have pre17 : ∀ t, Steps p.tables e below (s₁.setTop (mkF m 16 #[.val (.int p1), .val (.int p2), .unset, .unset] [(.int (5 : Int32))])) t → Steps p.tables e below (s₁.setTop (entryFrame m #[(.int p1), (.int p2)] maxLocals)) t := fun t k => pre4 t (by rw [g4]; exact k)
    obtain ⟨_, _, ⟨T18, L18, k18, n18⟩, -, X18, ⟨Lc18, hQ18, l18, y18, z18⟩, st18⟩ := Jvm.LawKit.callS X0 hx (y := (⟨"com/example/wellknit/wellknit/GeometryType", "ofCode", "(I)Lcom/example/wellknit/wellknit/GeometryType;"⟩ : MethodName)) hown (mvT hZ (hw _ (List.mem_of_getElem? (i := 0) rfl))) (mvT hZ (hw _ (List.mem_of_getElem? (i := 1) rfl))) (mvT hZ (hw _ (List.mem_of_getElem? (i := 2) rfl))) (mvT hZ (hw _ (List.mem_of_getElem? (i := 3) rfl))) (by decide) (backOf (W := 0) (rm1 l Z a0 hw [] (5 : Int32) wT cl w_POINT w_LINESTRING w_POLYGON w_MULTIPOINT w_MULTILINESTRING w_MULTIPOLYGON w_GEOMETRYCOLLECTION (.ref w_MULTILINESTRING) h0 n0 Z0 S_TYPES Ar hS A_POINT A_LINESTRING A_POLYGON A_MULTIPOINT A_MULTILINESTRING A_MULTIPOLYGON A_GEOMETRYCOLLECTION O_POINT O_LINESTRING O_POLYGON O_MULTIPOINT O_MULTILINESTRING O_MULTIPOLYGON O_GEOMETRYCOLLECTION rfl) hZ (hw _ (List.mem_of_getElem? (i := 3) rfl)) (hw _ (List.mem_of_getElem? (i := 2) rfl)) (by decide) (by decide)) (g := (mkF m 18 #[.val (.int p1), .val (.int p2), .val (.int (5 : Int32)), .unset] [(.int (5 : Int32))])) rfl (by rw [hml]; rfl) (argsL := [(.int (5 : Int32))]) (rest := []) (lenOf pd_rm0_0 rfl) rfl (by show 2 * 0 + _ ≤ _; exact Nat.le_of_eq rfl) (hb hby at_18) (fun _ _ => ⟨rfl, e0, (by decide : 0 + 0 ≤ _), (by decide : 0 + 0 ≤ _)⟩)
    dsimp only [Pt.U, Pt.locs, Pt.cells, Pt.slots] at X18 l18 y18 z18 st18 hQ18
    subst l18 y18 z18
    obtain ⟨rfl, N18q, e18⟩ := hQ18
    have N18 := Fr.app N0 N18q
    obtain ⟨_, _, ⟨T19, L19, k19, n19⟩, -, X19, ⟨Lc19, hQ19, l19, y19, z19⟩, st19⟩ := Jvm.LawKit.callS X18 hx (y := (⟨"com/example/wellknit/wellknit/GeometryTypeOfCodePinLaw", "expected", "(I)Lcom/example/wellknit/wellknit/GeometryType;"⟩ : MethodName)) hown (mvT hZ (hw _ (List.mem_of_getElem? (i := 15) rfl))) (mvT hZ (hw _ (List.mem_of_getElem? (i := 16) rfl))) (mvT hZ (hw _ (List.mem_of_getElem? (i := 17) rfl))) (mvT hZ (hw _ (List.mem_of_getElem? (i := 18) rfl))) (by decide) (backOf (W := 1) (rm2 l Z a0 hw [] (5 : Int32) w_POINT w_LINESTRING w_POLYGON w_MULTIPOINT w_MULTILINESTRING w_MULTIPOLYGON w_GEOMETRYCOLLECTION (.ref w_MULTILINESTRING) h0 n0 Z0 S_POINT S_LINESTRING S_POLYGON S_MULTIPOINT S_MULTILINESTRING S_MULTIPOLYGON S_GEOMETRYCOLLECTION rfl) hZ (hw _ (List.mem_of_getElem? (i := 18) rfl)) (hw _ (List.mem_of_getElem? (i := 17) rfl)) (by decide) (by decide)) (g := (mkF m 24 #[.val (.int p1), .val (.int p2), .val (.int (5 : Int32)), .val (.ref w_MULTILINESTRING)] [(.int (5 : Int32)), (.ref w_MULTILINESTRING)])) rfl (by rw [hml]; rfl) (argsL := [(.int (5 : Int32))]) (rest := [(.ref w_MULTILINESTRING)]) (lenOf pd_rm0_0 rfl) rfl (by show 2 * 0 + _ ≤ _; exact Nat.le_of_eq rfl) (hb hby at_24) (fun _ _ => ⟨rfl, e18, (by decide : 0 + 0 ≤ _), (by decide : 0 + 0 ≤ _)⟩)
    dsimp only [Pt.U, Pt.locs, Pt.cells, Pt.slots] at X19 l19 y19 z19 st19 hQ19
    subst l19 y19 z19
    obtain ⟨rfl, N19q, e19⟩ := hQ19
    have N19 := Fr.app N18 N19q
    obtain ⟨fs, hr, hrun, hended, hW, hsame⟩ := X19.leave (v := some (.int (1 : Int32))) (fun h => by rw [Bd.returns] at h; cases h)
    refine ⟨_, _, pre17 _ ?_, hrun, hended, _, _, rfl, ?_, ⟨_, rfl⟩, hW, hsame.mono (by decide) (by decide)⟩
    · show Steps p.tables e below (s₁.setTop (mkF m 16 #[.val (.int p1), .val (.int p2), .unset, .unset] [(.int (5 : Int32))])) _
      refine XS.istoreN X0.here hx rfl (hb hby at_16) rfl (l' := #[.val (.int p1), .val (.int p2), .val (.int (5 : Int32)), .unset]) rfl ?_
      show Steps p.tables e below (s₁.setTop (mkF m 17 #[.val (.int p1), .val (.int p2), .val (.int (5 : Int32)), .unset] [])) _
      refine XS.iloadN X0.here hx rfl (hb hby at_17) rfl ?_
      show Steps p.tables e below (s₁.setTop (mkF m 18 #[.val (.int p1), .val (.int p2), .val (.int (5 : Int32)), .unset] [(.int (5 : Int32))])) _
      refine st18 _ ?_
      show Steps p.tables e below (T18.setTop (mkF m 21 #[.val (.int p1), .val (.int p2), .val (.int (5 : Int32)), .unset] [(.ref w_MULTILINESTRING)])) _
      refine XS.astoreN X18.here hx rfl (hb hby at_21) rfl rfl (l' := #[.val (.int p1), .val (.int p2), .val (.int (5 : Int32)), .val (.ref w_MULTILINESTRING)]) rfl ?_
      show Steps p.tables e below (T18.setTop (mkF m 22 #[.val (.int p1), .val (.int p2), .val (.int (5 : Int32)), .val (.ref w_MULTILINESTRING)] [])) _
      refine XS.aloadN X18.here hx rfl (hb hby at_22) rfl rfl ?_
      show Steps p.tables e below (T18.setTop (mkF m 23 #[.val (.int p1), .val (.int p2), .val (.int (5 : Int32)), .val (.ref w_MULTILINESTRING)] [(.ref w_MULTILINESTRING)])) _
      refine XS.iloadN X18.here hx rfl (hb hby at_23) rfl ?_
      show Steps p.tables e below (T18.setTop (mkF m 24 #[.val (.int p1), .val (.int p2), .val (.int (5 : Int32)), .val (.ref w_MULTILINESTRING)] [(.int (5 : Int32)), (.ref w_MULTILINESTRING)])) _
      refine st19 _ ?_
      show Steps p.tables e below (T19.setTop (mkF m 27 #[.val (.int p1), .val (.int p2), .val (.int (5 : Int32)), .val (.ref w_MULTILINESTRING)] [(.ref w_MULTILINESTRING), (.ref w_MULTILINESTRING)])) _
      refine Jvm.RoadKit.acmp (g := (mkF m 27 #[.val (.int p1), .val (.int p2), .val (.int (5 : Int32)), .val (.ref w_MULTILINESTRING)] [(.ref w_MULTILINESTRING), (.ref w_MULTILINESTRING)])) X19 hx rfl rfl rfl (pc0 := 27) (pc' := 30) (same := true) rfl (hb hby at_27) rfl (decide_eq_true rfl) (by decide) (by decide) ?_
      show Steps p.tables e below (T19.setTop (mkF m 30 #[.val (.int p1), .val (.int p2), .val (.int (5 : Int32)), .val (.ref w_MULTILINESTRING)] [])) _
      refine XS.iconst X19.here hx rfl (hb hby at_30) ?_
      show Steps p.tables e below (T19.setTop (mkF m 31 #[.val (.int p1), .val (.int p2), .val (.int (5 : Int32)), .val (.ref w_MULTILINESTRING)] [(.int (1 : Int32))])) _
      refine XS.goto X19.here hx rfl (pc0 := 31) (pc' := 35) rfl (hb hby at_31) (by decide) (by decide) ?_
      show Steps p.tables e below (T19.setTop (mkF m 35 #[.val (.int p1), .val (.int p2), .val (.int (5 : Int32)), .val (.ref w_MULTILINESTRING)] [(.int (1 : Int32))])) _
      exact retN X19 hx (t := .boolean) Bd.returns (by simp) (hb hby at_35) hr
    · show Q_rm0 Z p1 p2 wT cl w_POINT w_LINESTRING w_POLYGON w_MULTIPOINT w_MULTILINESTRING w_MULTIPOLYGON w_GEOMETRYCOLLECTION h0 n0 _ T19.heap _
      rw [e19]
      exact ⟨rfl, N19⟩
  by_cases g5 : k = (6 : Int32)
  · have pre20 : ∀ t, Steps p.tables e below (s₁.setTop (mkF m 16 #[.val (.int p1), .val (.int p2), .unset, .unset] [(.int (6 : Int32))])) t → Steps p.tables e below (s₁.setTop (entryFrame m #[(.int p1), (.int p2)] maxLocals)) t := fun t k => pre4 t (by rw [g5]; exact k)
    obtain ⟨_, _, ⟨T21, L21, k21, n21⟩, -, X21, ⟨Lc21, hQ21, l21, y21, z21⟩, st21⟩ := Jvm.LawKit.callS X0 hx (y := (⟨"com/example/wellknit/wellknit/GeometryType", "ofCode", "(I)Lcom/example/wellknit/wellknit/GeometryType;"⟩ : MethodName)) hown (mvT hZ (hw _ (List.mem_of_getElem? (i := 0) rfl))) (mvT hZ (hw _ (List.mem_of_getElem? (i := 1) rfl))) (mvT hZ (hw _ (List.mem_of_getElem? (i := 2) rfl))) (mvT hZ (hw _ (List.mem_of_getElem? (i := 3) rfl))) (by decide) (backOf (W := 0) (rm1 l Z a0 hw [] (6 : Int32) wT cl w_POINT w_LINESTRING w_POLYGON w_MULTIPOINT w_MULTILINESTRING w_MULTIPOLYGON w_GEOMETRYCOLLECTION (.ref w_MULTIPOLYGON) h0 n0 Z0 S_TYPES Ar hS A_POINT A_LINESTRING A_POLYGON A_MULTIPOINT A_MULTILINESTRING A_MULTIPOLYGON A_GEOMETRYCOLLECTION O_POINT O_LINESTRING O_POLYGON O_MULTIPOINT O_MULTILINESTRING O_MULTIPOLYGON O_GEOMETRYCOLLECTION rfl) hZ (hw _ (List.mem_of_getElem? (i := 3) rfl)) (hw _ (List.mem_of_getElem? (i := 2) rfl)) (by decide) (by decide)) (g := (mkF m 18 #[.val (.int p1), .val (.int p2), .val (.int (6 : Int32)), .unset] [(.int (6 : Int32))])) rfl (by rw [hml]; rfl) (argsL := [(.int (6 : Int32))]) (rest := []) (lenOf pd_rm0_0 rfl) rfl (by show 2 * 0 + _ ≤ _; exact Nat.le_of_eq rfl) (hb hby at_18) (fun _ _ => ⟨rfl, e0, (by decide : 0 + 0 ≤ _), (by decide : 0 + 0 ≤ _)⟩)
    dsimp only [Pt.U, Pt.locs, Pt.cells, Pt.slots] at X21 l21 y21 z21 st21 hQ21
    subst l21 y21 z21
    obtain ⟨rfl, N21q, e21⟩ := hQ21
    have N21 := Fr.app N0 N21q
    obtain ⟨_, _, ⟨T22, L22, k22, n22⟩, -, X22, ⟨Lc22, hQ22, l22, y22, z22⟩, st22⟩ := Jvm.LawKit.callS X21 hx (y := (⟨"com/example/wellknit/wellknit/GeometryTypeOfCodePinLaw", "expected", "(I)Lcom/example/wellknit/wellknit/GeometryType;"⟩ : MethodName)) hown (mvT hZ (hw _ (List.mem_of_getElem? (i := 15) rfl))) (mvT hZ (hw _ (List.mem_of_getElem? (i := 16) rfl))) (mvT hZ (hw _ (List.mem_of_getElem? (i := 17) rfl))) (mvT hZ (hw _ (List.mem_of_getElem? (i := 18) rfl))) (by decide) (backOf (W := 1) (rm2 l Z a0 hw [] (6 : Int32) w_POINT w_LINESTRING w_POLYGON w_MULTIPOINT w_MULTILINESTRING w_MULTIPOLYGON w_GEOMETRYCOLLECTION (.ref w_MULTIPOLYGON) h0 n0 Z0 S_POINT S_LINESTRING S_POLYGON S_MULTIPOINT S_MULTILINESTRING S_MULTIPOLYGON S_GEOMETRYCOLLECTION rfl) hZ (hw _ (List.mem_of_getElem? (i := 18) rfl)) (hw _ (List.mem_of_getElem? (i := 17) rfl)) (by decide) (by decide)) (g := (mkF m 24 #[.val (.int p1), .val (.int p2), .val (.int (6 : Int32)), .val (.ref w_MULTIPOLYGON)] [(.int (6 : Int32)), (.ref w_MULTIPOLYGON)])) rfl (by rw [hml]; rfl) (argsL := [(.int (6 : Int32))]) (rest := [(.ref w_MULTIPOLYGON)]) (lenOf pd_rm0_0 rfl) rfl (by show 2 * 0 + _ ≤ _; exact Nat.le_of_eq rfl) (hb hby at_24) (fun _ _ => ⟨rfl, e21, (by decide : 0 + 0 ≤ _), (by decide : 0 + 0 ≤ _)⟩)
    dsimp only [Pt.U, Pt.locs, Pt.cells, Pt.slots] at X22 l22 y22 z22 st22 hQ22
    subst l22 y22 z22
    obtain ⟨rfl, N22q, e22⟩ := hQ22
    have N22 := Fr.app N21 N22q
    obtain ⟨fs, hr, hrun, hended, hW, hsame⟩ := X22.leave (v := some (.int (1 : Int32))) (fun h => by rw [Bd.returns] at h; cases h)
    refine ⟨_, _, pre20 _ ?_, hrun, hended, _, _, rfl, ?_, ⟨_, rfl⟩, hW, hsame.mono (by decide) (by decide)⟩
    · show Steps p.tables e below (s₁.setTop (mkF m 16 #[.val (.int p1), .val (.int p2), .unset, .unset] [(.int (6 : Int32))])) _
      refine XS.istoreN X0.here hx rfl (hb hby at_16) rfl (l' := #[.val (.int p1), .val (.int p2), .val (.int (6 : Int32)), .unset]) rfl ?_
      show Steps p.tables e below (s₁.setTop (mkF m 17 #[.val (.int p1), .val (.int p2), .val (.int (6 : Int32)), .unset] [])) _
      refine XS.iloadN X0.here hx rfl (hb hby at_17) rfl ?_
      show Steps p.tables e below (s₁.setTop (mkF m 18 #[.val (.int p1), .val (.int p2), .val (.int (6 : Int32)), .unset] [(.int (6 : Int32))])) _
      refine st21 _ ?_
      show Steps p.tables e below (T21.setTop (mkF m 21 #[.val (.int p1), .val (.int p2), .val (.int (6 : Int32)), .unset] [(.ref w_MULTIPOLYGON)])) _
      refine XS.astoreN X21.here hx rfl (hb hby at_21) rfl rfl (l' := #[.val (.int p1), .val (.int p2), .val (.int (6 : Int32)), .val (.ref w_MULTIPOLYGON)]) rfl ?_
      show Steps p.tables e below (T21.setTop (mkF m 22 #[.val (.int p1), .val (.int p2), .val (.int (6 : Int32)), .val (.ref w_MULTIPOLYGON)] [])) _
      refine XS.aloadN X21.here hx rfl (hb hby at_22) rfl rfl ?_
      show Steps p.tables e below (T21.setTop (mkF m 23 #[.val (.int p1), .val (.int p2), .val (.int (6 : Int32)), .val (.ref w_MULTIPOLYGON)] [(.ref w_MULTIPOLYGON)])) _
      refine XS.iloadN X21.here hx rfl (hb hby at_23) rfl ?_
      show Steps p.tables e below (T21.setTop (mkF m 24 #[.val (.int p1), .val (.int p2), .val (.int (6 : Int32)), .val (.ref w_MULTIPOLYGON)] [(.int (6 : Int32)), (.ref w_MULTIPOLYGON)])) _
      refine st22 _ ?_
      show Steps p.tables e below (T22.setTop (mkF m 27 #[.val (.int p1), .val (.int p2), .val (.int (6 : Int32)), .val (.ref w_MULTIPOLYGON)] [(.ref w_MULTIPOLYGON), (.ref w_MULTIPOLYGON)])) _
      refine Jvm.RoadKit.acmp (g := (mkF m 27 #[.val (.int p1), .val (.int p2), .val (.int (6 : Int32)), .val (.ref w_MULTIPOLYGON)] [(.ref w_MULTIPOLYGON), (.ref w_MULTIPOLYGON)])) X22 hx rfl rfl rfl (pc0 := 27) (pc' := 30) (same := true) rfl (hb hby at_27) rfl (decide_eq_true rfl) (by decide) (by decide) ?_
      show Steps p.tables e below (T22.setTop (mkF m 30 #[.val (.int p1), .val (.int p2), .val (.int (6 : Int32)), .val (.ref w_MULTIPOLYGON)] [])) _
      refine XS.iconst X22.here hx rfl (hb hby at_30) ?_
      show Steps p.tables e below (T22.setTop (mkF m 31 #[.val (.int p1), .val (.int p2), .val (.int (6 : Int32)), .val (.ref w_MULTIPOLYGON)] [(.int (1 : Int32))])) _
      refine XS.goto X22.here hx rfl (pc0 := 31) (pc' := 35) rfl (hb hby at_31) (by decide) (by decide) ?_
      show Steps p.tables e below (T22.setTop (mkF m 35 #[.val (.int p1), .val (.int p2), .val (.int (6 : Int32)), .val (.ref w_MULTIPOLYGON)] [(.int (1 : Int32))])) _
      exact retN X22 hx (t := .boolean) Bd.returns (by simp) (hb hby at_35) hr
    · show Q_rm0 Z p1 p2 wT cl w_POINT w_LINESTRING w_POLYGON w_MULTIPOINT w_MULTILINESTRING w_MULTIPOLYGON w_GEOMETRYCOLLECTION h0 n0 _ T22.heap _
      rw [e22]
      exact ⟨rfl, N22⟩
  by_cases g6 : k = (7 : Int32)
  · have pre23 : ∀ t, Steps p.tables e below (s₁.setTop (mkF m 16 #[.val (.int p1), .val (.int p2), .unset, .unset] [(.int (7 : Int32))])) t → Steps p.tables e below (s₁.setTop (entryFrame m #[(.int p1), (.int p2)] maxLocals)) t := fun t k => pre4 t (by rw [g6]; exact k)
    obtain ⟨_, _, ⟨T24, L24, k24, n24⟩, -, X24, ⟨Lc24, hQ24, l24, y24, z24⟩, st24⟩ := Jvm.LawKit.callS X0 hx (y := (⟨"com/example/wellknit/wellknit/GeometryType", "ofCode", "(I)Lcom/example/wellknit/wellknit/GeometryType;"⟩ : MethodName)) hown (mvT hZ (hw _ (List.mem_of_getElem? (i := 0) rfl))) (mvT hZ (hw _ (List.mem_of_getElem? (i := 1) rfl))) (mvT hZ (hw _ (List.mem_of_getElem? (i := 2) rfl))) (mvT hZ (hw _ (List.mem_of_getElem? (i := 3) rfl))) (by decide) (backOf (W := 0) (rm1 l Z a0 hw [] (7 : Int32) wT cl w_POINT w_LINESTRING w_POLYGON w_MULTIPOINT w_MULTILINESTRING w_MULTIPOLYGON w_GEOMETRYCOLLECTION (.ref w_GEOMETRYCOLLECTION) h0 n0 Z0 S_TYPES Ar hS A_POINT A_LINESTRING A_POLYGON A_MULTIPOINT A_MULTILINESTRING A_MULTIPOLYGON A_GEOMETRYCOLLECTION O_POINT O_LINESTRING O_POLYGON O_MULTIPOINT O_MULTILINESTRING O_MULTIPOLYGON O_GEOMETRYCOLLECTION rfl) hZ (hw _ (List.mem_of_getElem? (i := 3) rfl)) (hw _ (List.mem_of_getElem? (i := 2) rfl)) (by decide) (by decide)) (g := (mkF m 18 #[.val (.int p1), .val (.int p2), .val (.int (7 : Int32)), .unset] [(.int (7 : Int32))])) rfl (by rw [hml]; rfl) (argsL := [(.int (7 : Int32))]) (rest := []) (lenOf pd_rm0_0 rfl) rfl (by show 2 * 0 + _ ≤ _; exact Nat.le_of_eq rfl) (hb hby at_18) (fun _ _ => ⟨rfl, e0, (by decide : 0 + 0 ≤ _), (by decide : 0 + 0 ≤ _)⟩)
    dsimp only [Pt.U, Pt.locs, Pt.cells, Pt.slots] at X24 l24 y24 z24 st24 hQ24
    subst l24 y24 z24
    obtain ⟨rfl, N24q, e24⟩ := hQ24
    have N24 := Fr.app N0 N24q
    obtain ⟨_, _, ⟨T25, L25, k25, n25⟩, -, X25, ⟨Lc25, hQ25, l25, y25, z25⟩, st25⟩ := Jvm.LawKit.callS X24 hx (y := (⟨"com/example/wellknit/wellknit/GeometryTypeOfCodePinLaw", "expected", "(I)Lcom/example/wellknit/wellknit/GeometryType;"⟩ : MethodName)) hown (mvT hZ (hw _ (List.mem_of_getElem? (i := 15) rfl))) (mvT hZ (hw _ (List.mem_of_getElem? (i := 16) rfl))) (mvT hZ (hw _ (List.mem_of_getElem? (i := 17) rfl))) (mvT hZ (hw _ (List.mem_of_getElem? (i := 18) rfl))) (by decide) (backOf (W := 1) (rm2 l Z a0 hw [] (7 : Int32) w_POINT w_LINESTRING w_POLYGON w_MULTIPOINT w_MULTILINESTRING w_MULTIPOLYGON w_GEOMETRYCOLLECTION (.ref w_GEOMETRYCOLLECTION) h0 n0 Z0 S_POINT S_LINESTRING S_POLYGON S_MULTIPOINT S_MULTILINESTRING S_MULTIPOLYGON S_GEOMETRYCOLLECTION rfl) hZ (hw _ (List.mem_of_getElem? (i := 18) rfl)) (hw _ (List.mem_of_getElem? (i := 17) rfl)) (by decide) (by decide)) (g := (mkF m 24 #[.val (.int p1), .val (.int p2), .val (.int (7 : Int32)), .val (.ref w_GEOMETRYCOLLECTION)] [(.int (7 : Int32)), (.ref w_GEOMETRYCOLLECTION)])) rfl (by rw [hml]; rfl) (argsL := [(.int (7 : Int32))]) (rest := [(.ref w_GEOMETRYCOLLECTION)]) (lenOf pd_rm0_0 rfl) rfl (by show 2 * 0 + _ ≤ _; exact Nat.le_of_eq rfl) (hb hby at_24) (fun _ _ => ⟨rfl, e24, (by decide : 0 + 0 ≤ _), (by decide : 0 + 0 ≤ _)⟩)
    dsimp only [Pt.U, Pt.locs, Pt.cells, Pt.slots] at X25 l25 y25 z25 st25 hQ25
    subst l25 y25 z25
    obtain ⟨rfl, N25q, e25⟩ := hQ25
    have N25 := Fr.app N24 N25q
    obtain ⟨fs, hr, hrun, hended, hW, hsame⟩ := X25.leave (v := some (.int (1 : Int32))) (fun h => by rw [Bd.returns] at h; cases h)
    refine ⟨_, _, pre23 _ ?_, hrun, hended, _, _, rfl, ?_, ⟨_, rfl⟩, hW, hsame.mono (by decide) (by decide)⟩
    · show Steps p.tables e below (s₁.setTop (mkF m 16 #[.val (.int p1), .val (.int p2), .unset, .unset] [(.int (7 : Int32))])) _
      refine XS.istoreN X0.here hx rfl (hb hby at_16) rfl (l' := #[.val (.int p1), .val (.int p2), .val (.int (7 : Int32)), .unset]) rfl ?_
      show Steps p.tables e below (s₁.setTop (mkF m 17 #[.val (.int p1), .val (.int p2), .val (.int (7 : Int32)), .unset] [])) _
      refine XS.iloadN X0.here hx rfl (hb hby at_17) rfl ?_
      show Steps p.tables e below (s₁.setTop (mkF m 18 #[.val (.int p1), .val (.int p2), .val (.int (7 : Int32)), .unset] [(.int (7 : Int32))])) _
      refine st24 _ ?_
      show Steps p.tables e below (T24.setTop (mkF m 21 #[.val (.int p1), .val (.int p2), .val (.int (7 : Int32)), .unset] [(.ref w_GEOMETRYCOLLECTION)])) _
      refine XS.astoreN X24.here hx rfl (hb hby at_21) rfl rfl (l' := #[.val (.int p1), .val (.int p2), .val (.int (7 : Int32)), .val (.ref w_GEOMETRYCOLLECTION)]) rfl ?_
      show Steps p.tables e below (T24.setTop (mkF m 22 #[.val (.int p1), .val (.int p2), .val (.int (7 : Int32)), .val (.ref w_GEOMETRYCOLLECTION)] [])) _
      refine XS.aloadN X24.here hx rfl (hb hby at_22) rfl rfl ?_
      show Steps p.tables e below (T24.setTop (mkF m 23 #[.val (.int p1), .val (.int p2), .val (.int (7 : Int32)), .val (.ref w_GEOMETRYCOLLECTION)] [(.ref w_GEOMETRYCOLLECTION)])) _
      refine XS.iloadN X24.here hx rfl (hb hby at_23) rfl ?_
      show Steps p.tables e below (T24.setTop (mkF m 24 #[.val (.int p1), .val (.int p2), .val (.int (7 : Int32)), .val (.ref w_GEOMETRYCOLLECTION)] [(.int (7 : Int32)), (.ref w_GEOMETRYCOLLECTION)])) _
      refine st25 _ ?_
      show Steps p.tables e below (T25.setTop (mkF m 27 #[.val (.int p1), .val (.int p2), .val (.int (7 : Int32)), .val (.ref w_GEOMETRYCOLLECTION)] [(.ref w_GEOMETRYCOLLECTION), (.ref w_GEOMETRYCOLLECTION)])) _
      refine Jvm.RoadKit.acmp (g := (mkF m 27 #[.val (.int p1), .val (.int p2), .val (.int (7 : Int32)), .val (.ref w_GEOMETRYCOLLECTION)] [(.ref w_GEOMETRYCOLLECTION), (.ref w_GEOMETRYCOLLECTION)])) X25 hx rfl rfl rfl (pc0 := 27) (pc' := 30) (same := true) rfl (hb hby at_27) rfl (decide_eq_true rfl) (by decide) (by decide) ?_
      show Steps p.tables e below (T25.setTop (mkF m 30 #[.val (.int p1), .val (.int p2), .val (.int (7 : Int32)), .val (.ref w_GEOMETRYCOLLECTION)] [])) _
      refine XS.iconst X25.here hx rfl (hb hby at_30) ?_
      show Steps p.tables e below (T25.setTop (mkF m 31 #[.val (.int p1), .val (.int p2), .val (.int (7 : Int32)), .val (.ref w_GEOMETRYCOLLECTION)] [(.int (1 : Int32))])) _
      refine XS.goto X25.here hx rfl (pc0 := 31) (pc' := 35) rfl (hb hby at_31) (by decide) (by decide) ?_
      show Steps p.tables e below (T25.setTop (mkF m 35 #[.val (.int p1), .val (.int p2), .val (.int (7 : Int32)), .val (.ref w_GEOMETRYCOLLECTION)] [(.int (1 : Int32))])) _
      exact retN X25 hx (t := .boolean) Bd.returns (by simp) (hb hby at_35) hr
    · show Q_rm0 Z p1 p2 wT cl w_POINT w_LINESTRING w_POLYGON w_MULTIPOINT w_MULTILINESTRING w_MULTIPOLYGON w_GEOMETRYCOLLECTION h0 n0 _ T25.heap _
      rw [e25]
      exact ⟨rfl, N25⟩
  obtain ⟨_, _, ⟨T26, L26, k26, n26⟩, -, X26, ⟨Lc26, hQ26, l26, y26, z26⟩, st26⟩ := Jvm.LawKit.callS X0 hx (y := (⟨"com/example/wellknit/wellknit/GeometryType", "ofCode", "(I)Lcom/example/wellknit/wellknit/GeometryType;"⟩ : MethodName)) hown (mvT hZ (hw _ (List.mem_of_getElem? (i := 0) rfl))) (mvT hZ (hw _ (List.mem_of_getElem? (i := 1) rfl))) (mvT hZ (hw _ (List.mem_of_getElem? (i := 2) rfl))) (mvT hZ (hw _ (List.mem_of_getElem? (i := 3) rfl))) (by decide) (backOf (W := 0) (rm1 l Z a0 hw [] k wT cl w_POINT w_LINESTRING w_POLYGON w_MULTIPOINT w_MULTILINESTRING w_MULTIPOLYGON w_GEOMETRYCOLLECTION .null h0 n0 Z0 S_TYPES Ar hS A_POINT A_LINESTRING A_POLYGON A_MULTIPOINT A_MULTILINESTRING A_MULTIPOLYGON A_GEOMETRYCOLLECTION O_POINT O_LINESTRING O_POLYGON O_MULTIPOINT O_MULTILINESTRING O_MULTIPOLYGON O_GEOMETRYCOLLECTION (by simp only [ofW, if_neg (Ne.symm g0), if_neg (Ne.symm g1), if_neg (Ne.symm g2), if_neg (Ne.symm g3), if_neg (Ne.symm g4), if_neg (Ne.symm g5), if_neg (Ne.symm g6)])) hZ (hw _ (List.mem_of_getElem? (i := 3) rfl)) (hw _ (List.mem_of_getElem? (i := 2) rfl)) (by decide) (by decide)) (g := (mkF m 18 #[.val (.int p1), .val (.int p2), .val (.int k), .unset] [(.int k)])) rfl (by rw [hml]; rfl) (argsL := [(.int k)]) (rest := []) (lenOf pd_rm0_0 rfl) rfl (by show 2 * 0 + _ ≤ _; exact Nat.le_of_eq rfl) (hb hby at_18) (fun _ _ => ⟨rfl, e0, (by decide : 0 + 0 ≤ _), (by decide : 0 + 0 ≤ _)⟩)
  dsimp only [Pt.U, Pt.locs, Pt.cells, Pt.slots] at X26 l26 y26 z26 st26 hQ26
  subst l26 y26 z26
  obtain ⟨rfl, N26q, e26⟩ := hQ26
  have N26 := Fr.app N0 N26q
  obtain ⟨_, _, ⟨T27, L27, k27, n27⟩, -, X27, ⟨Lc27, hQ27, l27, y27, z27⟩, st27⟩ := Jvm.LawKit.callS X26 hx (y := (⟨"com/example/wellknit/wellknit/GeometryTypeOfCodePinLaw", "expected", "(I)Lcom/example/wellknit/wellknit/GeometryType;"⟩ : MethodName)) hown (mvT hZ (hw _ (List.mem_of_getElem? (i := 15) rfl))) (mvT hZ (hw _ (List.mem_of_getElem? (i := 16) rfl))) (mvT hZ (hw _ (List.mem_of_getElem? (i := 17) rfl))) (mvT hZ (hw _ (List.mem_of_getElem? (i := 18) rfl))) (by decide) (backOf (W := 1) (rm2 l Z a0 hw [] k w_POINT w_LINESTRING w_POLYGON w_MULTIPOINT w_MULTILINESTRING w_MULTIPOLYGON w_GEOMETRYCOLLECTION .null h0 n0 Z0 S_POINT S_LINESTRING S_POLYGON S_MULTIPOINT S_MULTILINESTRING S_MULTIPOLYGON S_GEOMETRYCOLLECTION (by simp only [exW, if_neg g0, if_neg g1, if_neg g2, if_neg g3, if_neg g4, if_neg g5, if_neg g6])) hZ (hw _ (List.mem_of_getElem? (i := 18) rfl)) (hw _ (List.mem_of_getElem? (i := 17) rfl)) (by decide) (by decide)) (g := (mkF m 24 #[.val (.int p1), .val (.int p2), .val (.int k), .val .null] [(.int k), .null])) rfl (by rw [hml]; rfl) (argsL := [(.int k)]) (rest := [.null]) (lenOf pd_rm0_0 rfl) rfl (by show 2 * 0 + _ ≤ _; exact Nat.le_of_eq rfl) (hb hby at_24) (fun _ _ => ⟨rfl, e26, (by decide : 0 + 0 ≤ _), (by decide : 0 + 0 ≤ _)⟩)
  dsimp only [Pt.U, Pt.locs, Pt.cells, Pt.slots] at X27 l27 y27 z27 st27 hQ27
  subst l27 y27 z27
  obtain ⟨rfl, N27q, e27⟩ := hQ27
  have N27 := Fr.app N26 N27q
  obtain ⟨fs, hr, hrun, hended, hW, hsame⟩ := X27.leave (v := some (.int (1 : Int32))) (fun h => by rw [Bd.returns] at h; cases h)
  refine ⟨_, _, pre4 _ ?_, hrun, hended, _, _, rfl, ?_, ⟨_, rfl⟩, hW, hsame.mono (by decide) (by decide)⟩
  · show Steps p.tables e below (s₁.setTop (mkF m 16 #[.val (.int p1), .val (.int p2), .unset, .unset] [(.int k)])) _
    refine XS.istoreN X0.here hx rfl (hb hby at_16) rfl (l' := #[.val (.int p1), .val (.int p2), .val (.int k), .unset]) rfl ?_
    show Steps p.tables e below (s₁.setTop (mkF m 17 #[.val (.int p1), .val (.int p2), .val (.int k), .unset] [])) _
    refine XS.iloadN X0.here hx rfl (hb hby at_17) rfl ?_
    show Steps p.tables e below (s₁.setTop (mkF m 18 #[.val (.int p1), .val (.int p2), .val (.int k), .unset] [(.int k)])) _
    refine st26 _ ?_
    show Steps p.tables e below (T26.setTop (mkF m 21 #[.val (.int p1), .val (.int p2), .val (.int k), .unset] [.null])) _
    refine XS.astoreN X26.here hx rfl (hb hby at_21) rfl rfl (l' := #[.val (.int p1), .val (.int p2), .val (.int k), .val .null]) rfl ?_
    show Steps p.tables e below (T26.setTop (mkF m 22 #[.val (.int p1), .val (.int p2), .val (.int k), .val .null] [])) _
    refine XS.aloadN X26.here hx rfl (hb hby at_22) rfl rfl ?_
    show Steps p.tables e below (T26.setTop (mkF m 23 #[.val (.int p1), .val (.int p2), .val (.int k), .val .null] [.null])) _
    refine XS.iloadN X26.here hx rfl (hb hby at_23) rfl ?_
    show Steps p.tables e below (T26.setTop (mkF m 24 #[.val (.int p1), .val (.int p2), .val (.int k), .val .null] [(.int k), .null])) _
    refine st27 _ ?_
    show Steps p.tables e below (T27.setTop (mkF m 27 #[.val (.int p1), .val (.int p2), .val (.int k), .val .null] [.null, .null])) _
    refine Jvm.RoadKit.acmp (g := (mkF m 27 #[.val (.int p1), .val (.int p2), .val (.int k), .val .null] [.null, .null])) X27 hx rfl rfl rfl (pc0 := 27) (pc' := 30) (same := true) rfl (hb hby at_27) rfl (decide_eq_true rfl) (by decide) (by decide) ?_
    show Steps p.tables e below (T27.setTop (mkF m 30 #[.val (.int p1), .val (.int p2), .val (.int k), .val .null] [])) _
    refine XS.iconst X27.here hx rfl (hb hby at_30) ?_
    show Steps p.tables e below (T27.setTop (mkF m 31 #[.val (.int p1), .val (.int p2), .val (.int k), .val .null] [(.int (1 : Int32))])) _
    refine XS.goto X27.here hx rfl (pc0 := 31) (pc' := 35) rfl (hb hby at_31) (by decide) (by decide) ?_
    show Steps p.tables e below (T27.setTop (mkF m 35 #[.val (.int p1), .val (.int p2), .val (.int k), .val .null] [(.int (1 : Int32))])) _
    exact retN X27 hx (t := .boolean) Bd.returns (by simp) (hb hby at_35) hr
  · show Q_rm0 Z p1 p2 wT cl w_POINT w_LINESTRING w_POLYGON w_MULTIPOINT w_MULTILINESTRING w_MULTIPOLYGON w_GEOMETRYCOLLECTION h0 n0 _ T27.heap _
    rw [e27]
    exact ⟨rfl, N27⟩
set_option maxRecDepth 65536 in
set_option maxHeartbeats 40000000 in
theorem comes_1 {Post : Tables → Env → Array Value → State → Outcome → State → Prop} (hpost : ∀ tb e args s v u, (limb_1_1.after args s (.returned v) u = true ∧ limb_1_2.after args s (.returned v) u = true ∧ True) → FrameEnd s (.returned v) u (Jvm.fieldLocs frame_1_writes args s ++ Jvm.arrayLocs frame_1_arrays args s ++ Jvm.staticLocs frame_1_statics s) 0 0 → Post tb e args s (.returned v) u) :
    ArmFor flags0 classFile x code maxLocals ret World_1 tables_1 room_1 Calls_1 rest_1 Pre_1 Post := by
  intro l hfl _ _ p e ha hc hk s m args below hf hA hF happ hP
  obtain ⟨hcalls, hrest, hpre⟩ := hP
  obtain ⟨-, -, -, hnamed, -, -, -, hat⟩ := (Spec.applies_iff hf).mp happ
  obtain ⟨hg, hn⟩ := and_e (Cond.before_iff.mp (show (Jvm.Cond.and given_1 narrow_1).before args s = true from hpre))
  obtain ⟨hcount, hgs⟩ := and_e hg
  obtain ⟨hg0, hgr0⟩ := and_e hgs
  obtain ⟨w0, w1, rfl⟩ : ∃ w0 w1 : Value, args = #[w0, w1] := by
    have hs : args.size = 2 := by simpa [Cond.value, given_1] using hcount
    obtain ⟨L⟩ := args
    match L, hs with
    | [w0, w1], _ => exact ⟨w0, w1, rfl⟩
  have hw := fun d (hd : d ∈ tables_1) => atoms_spec (ws := Jvm.Cond.code x code maxLocals ret :: tables_1) hat d (List.mem_cons_of_mem _ hd)
  have hfit : Fit s := fun {y c} hc i hi => by
    obtain ⟨ha, rfl⟩ := Array.getElem?_eq_some_iff.mp hc
    have q := List.all_eq_true.mp ((Array.all_eq_true_iff_forall_mem.mp hF) _ (Array.getElem_mem ha)) i (List.mem_range.mpr hi)
    simpa [Array.getElem?_eq_getElem hi] using q
  obtain ⟨i0, ei0⟩ := is_v hg0
  obtain rfl : w0 = (.int i0) := Option.some.inj ei0
  obtain ⟨i1, ei1⟩ := is_v hgr0
  obtain rfl : w1 = (.int i1) := Option.some.inj ei1
  obtain ⟨c0, hr_0⟩ := and_e hn
  obtain ⟨c1, hr_1⟩ := and_e hr_0
  obtain ⟨c2, hr_2⟩ := and_e hr_1
  obtain ⟨c3, hr_3⟩ := and_e hr_2
  obtain ⟨c4, hr_4⟩ := and_e hr_3
  obtain ⟨c5, hr_5⟩ := and_e hr_4
  obtain ⟨c6, hr_6⟩ := and_e hr_5
  obtain ⟨c7, hr_7⟩ := and_e hr_6
  obtain ⟨c8, hr_8⟩ := and_e hr_7
  obtain ⟨c9, hr_9⟩ := and_e hr_8
  obtain ⟨c10, hr_10⟩ := and_e hr_9
  obtain ⟨c11, hr_11⟩ := and_e hr_10
  obtain ⟨c12, hr_12⟩ := and_e hr_11
  obtain ⟨c13, hr_13⟩ := and_e hr_12
  obtain ⟨c14, hr_14⟩ := and_e hr_13
  obtain ⟨c15, hr_15⟩ := and_e hr_14
  obtain ⟨c16, hr_16⟩ := and_e hr_15
  obtain ⟨c17, hr_17⟩ := and_e hr_16
  obtain ⟨c18, hr_18⟩ := and_e hr_17
  obtain ⟨c19, hr_19⟩ := and_e hr_18
  obtain ⟨c20, hr_20⟩ := and_e hr_19
  obtain ⟨c21, hr_21⟩ := and_e hr_20
  have c22 := hr_21
  obtain ⟨w_POINT, ev_POINT⟩ := exa_v c2
  have S_POINT : Sta s s.heap "com/example/wellknit/wellknit/GeometryType" "POINT" "Lcom/example/wellknit/wellknit/GeometryType;" (.ref w_POINT) := Sta.start ev_POINT (Or.inr ⟨(hw _ (List.mem_of_getElem? (i := 2) rfl)), (hw _ (List.mem_of_getElem? (i := 6) rfl))⟩)
  have E_POINT : Exa s s.heap w_POINT "com/example/wellknit/wellknit/GeometryType" := Exa.start ev_POINT c2
  obtain ⟨w_LINESTRING, ev_LINESTRING⟩ := exa_v c5
  have S_LINESTRING : Sta s s.heap "com/example/wellknit/wellknit/GeometryType" "LINESTRING" "Lcom/example/wellknit/wellknit/GeometryType;" (.ref w_LINESTRING) := Sta.start ev_LINESTRING (Or.inr ⟨(hw _ (List.mem_of_getElem? (i := 2) rfl)), (hw _ (List.mem_of_getElem? (i := 9) rfl))⟩)
  have E_LINESTRING : Exa s s.heap w_LINESTRING "com/example/wellknit/wellknit/GeometryType" := Exa.start ev_LINESTRING c5
  obtain ⟨w_POLYGON, ev_POLYGON⟩ := exa_v c8
  have S_POLYGON : Sta s s.heap "com/example/wellknit/wellknit/GeometryType" "POLYGON" "Lcom/example/wellknit/wellknit/GeometryType;" (.ref w_POLYGON) := Sta.start ev_POLYGON (Or.inr ⟨(hw _ (List.mem_of_getElem? (i := 2) rfl)), (hw _ (List.mem_of_getElem? (i := 10) rfl))⟩)
  have E_POLYGON : Exa s s.heap w_POLYGON "com/example/wellknit/wellknit/GeometryType" := Exa.start ev_POLYGON c8
  obtain ⟨w_MULTIPOINT, ev_MULTIPOINT⟩ := exa_v c11
  have S_MULTIPOINT : Sta s s.heap "com/example/wellknit/wellknit/GeometryType" "MULTIPOINT" "Lcom/example/wellknit/wellknit/GeometryType;" (.ref w_MULTIPOINT) := Sta.start ev_MULTIPOINT (Or.inr ⟨(hw _ (List.mem_of_getElem? (i := 2) rfl)), (hw _ (List.mem_of_getElem? (i := 11) rfl))⟩)
  have E_MULTIPOINT : Exa s s.heap w_MULTIPOINT "com/example/wellknit/wellknit/GeometryType" := Exa.start ev_MULTIPOINT c11
  obtain ⟨w_MULTILINESTRING, ev_MULTILINESTRING⟩ := exa_v c14
  have S_MULTILINESTRING : Sta s s.heap "com/example/wellknit/wellknit/GeometryType" "MULTILINESTRING" "Lcom/example/wellknit/wellknit/GeometryType;" (.ref w_MULTILINESTRING) := Sta.start ev_MULTILINESTRING (Or.inr ⟨(hw _ (List.mem_of_getElem? (i := 2) rfl)), (hw _ (List.mem_of_getElem? (i := 12) rfl))⟩)
  have E_MULTILINESTRING : Exa s s.heap w_MULTILINESTRING "com/example/wellknit/wellknit/GeometryType" := Exa.start ev_MULTILINESTRING c14
  obtain ⟨w_MULTIPOLYGON, ev_MULTIPOLYGON⟩ := exa_v c17
  have S_MULTIPOLYGON : Sta s s.heap "com/example/wellknit/wellknit/GeometryType" "MULTIPOLYGON" "Lcom/example/wellknit/wellknit/GeometryType;" (.ref w_MULTIPOLYGON) := Sta.start ev_MULTIPOLYGON (Or.inr ⟨(hw _ (List.mem_of_getElem? (i := 2) rfl)), (hw _ (List.mem_of_getElem? (i := 13) rfl))⟩)
  have E_MULTIPOLYGON : Exa s s.heap w_MULTIPOLYGON "com/example/wellknit/wellknit/GeometryType" := Exa.start ev_MULTIPOLYGON c17
  obtain ⟨w_GEOMETRYCOLLECTION, ev_GEOMETRYCOLLECTION⟩ := exa_v c20
  have S_GEOMETRYCOLLECTION : Sta s s.heap "com/example/wellknit/wellknit/GeometryType" "GEOMETRYCOLLECTION" "Lcom/example/wellknit/wellknit/GeometryType;" (.ref w_GEOMETRYCOLLECTION) := Sta.start ev_GEOMETRYCOLLECTION (Or.inr ⟨(hw _ (List.mem_of_getElem? (i := 2) rfl)), (hw _ (List.mem_of_getElem? (i := 14) rfl))⟩)
  have E_GEOMETRYCOLLECTION : Exa s s.heap w_GEOMETRYCOLLECTION "com/example/wellknit/wellknit/GeometryType" := Exa.start ev_GEOMETRYCOLLECTION c20
  have O_POINT : Fld s s.heap w_POINT "com/example/wellknit/wellknit/GeometryType" "code" "I" (.int (1 : Int32)) := own_fld ev_POINT c4
  have O_LINESTRING : Fld s s.heap w_LINESTRING "com/example/wellknit/wellknit/GeometryType" "code" "I" (.int (2 : Int32)) := own_fld ev_LINESTRING c7
  have O_POLYGON : Fld s s.heap w_POLYGON "com/example/wellknit/wellknit/GeometryType" "code" "I" (.int (3 : Int32)) := own_fld ev_POLYGON c10
  have O_MULTIPOINT : Fld s s.heap w_MULTIPOINT "com/example/wellknit/wellknit/GeometryType" "code" "I" (.int (4 : Int32)) := own_fld ev_MULTIPOINT c13
  have O_MULTILINESTRING : Fld s s.heap w_MULTILINESTRING "com/example/wellknit/wellknit/GeometryType" "code" "I" (.int (5 : Int32)) := own_fld ev_MULTILINESTRING c16
  have O_MULTIPOLYGON : Fld s s.heap w_MULTIPOLYGON "com/example/wellknit/wellknit/GeometryType" "code" "I" (.int (6 : Int32)) := own_fld ev_MULTIPOLYGON c19
  have O_GEOMETRYCOLLECTION : Fld s s.heap w_GEOMETRYCOLLECTION "com/example/wellknit/wellknit/GeometryType" "code" "I" (.int (7 : Int32)) := own_fld ev_GEOMETRYCOLLECTION c22
  obtain ⟨wT, evT⟩ := arr_v c0
  have S_TYPES : Sta s s.heap "com/example/wellknit/wellknit/GeometryType" "TYPES" "[Lcom/example/wellknit/wellknit/GeometryType;" (.ref wT) := Sta.start evT (Or.inr ⟨(hw _ (List.mem_of_getElem? (i := 2) rfl)), (hw _ (List.mem_of_getElem? (i := 5) rfl))⟩)
  obtain ⟨cl, Ar⟩ := Arr.start evT c0
  obtain ⟨hS, -, hz⟩ := own_len evT Ar c1
  have A_POINT := own_elemR (j := (0 : Int32)) evT Ar c3 ev_POINT rfl (by decide)
  have A_LINESTRING := own_elemR (j := (1 : Int32)) evT Ar c6 ev_LINESTRING rfl (by decide)
  have A_POLYGON := own_elemR (j := (2 : Int32)) evT Ar c9 ev_POLYGON rfl (by decide)
  have A_MULTIPOINT := own_elemR (j := (3 : Int32)) evT Ar c12 ev_MULTIPOINT rfl (by decide)
  have A_MULTILINESTRING := own_elemR (j := (4 : Int32)) evT Ar c15 ev_MULTILINESTRING rfl (by decide)
  have A_MULTIPOLYGON := own_elemR (j := (5 : Int32)) evT Ar c18 ev_MULTIPOLYGON rfl (by decide)
  have A_GEOMETRYCOLLECTION := own_elemR (j := (6 : Int32)) evT Ar c21 ev_GEOMETRYCOLLECTION rfl (by decide)
  obtain ⟨n, o, h1, h2, h3, _, L, rfl, ⟨rfl, N⟩, hq⟩ := rm0 l s _ hw tables_1 i0 i1 wT cl w_POINT w_LINESTRING w_POLYGON w_MULTIPOINT w_MULTILINESTRING w_MULTIPOLYGON w_GEOMETRYCOLLECTION s.heap s.heap.size (Nat.le_refl _) S_TYPES Ar hS A_POINT A_LINESTRING A_POLYGON A_MULTIPOINT A_MULTILINESTRING A_MULTIPOLYGON A_GEOMETRYCOLLECTION O_POINT O_LINESTRING O_POLYGON O_MULTIPOINT O_MULTILINESTRING O_MULTIPOLYGON O_GEOMETRYCOLLECTION S_POINT S_LINESTRING S_POLYGON S_MULTIPOINT S_MULTILINESTRING S_MULTIPOLYGON S_GEOMETRYCOLLECTION p e ha hc hk s m _ below hf ((Spec.applies_iff_loose hf).mp happ).1 ⟨rfl, State.Warmed39.refl s, rfl⟩ trivial
  refine ⟨n, _, h1, h2, h3, hpost _ _ _ _ _ _ ⟨Cond.after_iff.mpr rfl, Cond.after_iff.mpr (eq_i res_at (Term.int_eval (1)) rfl), trivial⟩ ⟨hq.1, hq.2.1, (hq.2.2.sift fun y hy => Or.inr (N y hy)).mono (by decide) (by decide)⟩⟩
theorem main_1_1 : Claimed_1_1 := comes_1 fun _ _ _ _ _ _ h hF => ⟨h.1, hF⟩
theorem main_1_2 : Claimed_1_2 := comes_1 fun _ _ _ _ _ _ h hF => ⟨h.2.1, hF⟩
end Jvm.Pilot.@@N@@
namespace Jvm.Pilot.@@N@@
open Jvm Jvm.ClassFile Sem Op Lib Jvm.Free Jvm.Stand Jvm.Pilot.@@N@@.Jvm.D
/-! MADE BY PROGRAM (witnessworld.py) out of the Statement's table words and the real class files: 13 classes; the members and pool entries that the words name. The judged class is class 1, her method 1. -/
namespace start1
open Jvm.ClassFile
def u (s : String) : CpInfo := .utf8 (stringToUtf16 s)
/-- a pool by its gaps: so many unusable entries, then the entry; so many at the end -/
def gap : Nat → List CpInfo → List CpInfo
  | 0, r => r
  | n + 1, r => .unusable :: gap n r
def poolList (es : List (Nat × CpInfo)) (last : Nat) : List CpInfo := es.foldr (fun e r => gap e.1 (e.2 :: r)) (gap last [])
def pool (es : List (Nat × CpInfo)) (last : Nat) : Array CpInfo := ⟨poolList es last⟩
def fileOf (pool : Array CpInfo) (this : Nat) (attrs : Array Attribute := #[]) (ms : Array MethodInfo := #[]) (fl : Nat := 33) (sup : Nat := 0) (ifs : Array Nat := #[]) (fds : Array FieldInfo := #[]) : ClassFile where
  minorVersion := 0
  majorVersion := 65
  constantPool := pool
  accessFlags := fl
  thisClass := this
  superClass := sup
  interfaces := ifs
  fields := fds
  methods := ms
  attributes := attrs
def plain (name : String) (sup : Option ClassId) : Class where
  name := name
  kind := .ordinary
  loader := none
  accessFlags := 33
  super := sup
  interfaces := #[]
  cf := none
  fields := #[]
  methods := #[]
  instanceTypes := #[]
  staticTypes := #[]
  resolved := #[]
  callSites := []
  init := .initialized
  statics := none
  mirror := none

def pool0 : Array CpInfo := pool [(5, u "<init>"), (0, u "()V"), (1, .class_ 10), (1, u "java/lang/Object")] 113

def k0m0 : Method := { name := "<init>", desc := "()V", sig := { parameters := [], returnType := none }, accessFlags := 1, code := none }
/-- java/lang/Object -/
def k0 : Class := { plain "java/lang/Object" none with
  accessFlags := 33
  interfaces := #[]
  cf := some (fileOf pool0 8 #[] #[{ accessFlags := 1, nameIndex := 5, descriptorIndex := 6, attributes := #[] }] 33 0 #[] #[])
  fields := #[]
  methods := #[k0m0]
  instanceTypes := #[]
  staticTypes := #[]
  resolved := Array.replicate 124 none
  statics := none }

def pool1 : Array CpInfo := pool [(2, .class_ 4), (1, u "java/lang/Object"), (0, u "<init>"), (0, u "()V"), (0, .methodref 8 9), (0, .class_ 10), (0, .nameAndType 11 12), (0, u "com/example/wellknit/wellknit/GeometryType"), (0, u "ofCode"), (0, u "(I)Lcom/example/wellknit/wellknit/GeometryType;"), (0, .methodref 14 15), (0, .class_ 16), (0, .nameAndType 17 12), (0, u "com/example/wellknit/wellknit/GeometryTypeOfCodePinLaw"), (0, u "expected"), (0, .fieldref 8 19), (0, .nameAndType 20 21), (0, u "POINT"), (0, u "Lcom/example/wellknit/wellknit/GeometryType;"), (0, .fieldref 8 23), (0, .nameAndType 24 21), (0, u "LINESTRING"), (0, .fieldref 8 26), (0, .nameAndType 27 21), (0, u "POLYGON"), (0, .fieldref 8 29), (0, .nameAndType 30 21), (0, u "MULTIPOINT"), (0, .fieldref 8 32), (0, .nameAndType 33 21), (0, u "MULTILINESTRING"), (0, .fieldref 8 35), (0, .nameAndType 36 21), (0, u "MULTIPOLYGON"), (0, .fieldref 8 38), (0, .nameAndType 39 21), (0, u "GEOMETRYCOLLECTION"), (2, u "law"), (0, u "(II)Z")] 3

def k1m0 : Method := { name := "<init>", desc := "()V", sig := { parameters := [], returnType := none }, accessFlags := 1, code := none }
def k1c1 : Code := { maxStack := 2, maxLocals := 4, code := code, exceptionTable := #[], attributes := #[] }
def k1m1 : Method := { name := "law", desc := "(II)Z", sig := { parameters := [.int, .int], returnType := some .boolean }, accessFlags := 9, code := some k1c1 }
def k1c2 : Code := { maxStack := 2, maxLocals := 1, code := method_3_code, exceptionTable := #[], attributes := #[] }
def k1m2 : Method := { name := "expected", desc := "(I)Lcom/example/wellknit/wellknit/GeometryType;", sig := { parameters := [.int], returnType := some (.object "com/example/wellknit/wellknit/GeometryType") }, accessFlags := 10, code := some k1c2 }
/-- com/example/wellknit/wellknit/GeometryTypeOfCodePinLaw -/
def k1 : Class := { plain "com/example/wellknit/wellknit/GeometryTypeOfCodePinLaw" (some 0) with
  accessFlags := 49
  interfaces := #[]
  cf := some (fileOf pool1 14 #[] #[{ accessFlags := 1, nameIndex := 5, descriptorIndex := 6, attributes := #[] }, { accessFlags := 9, nameIndex := 42, descriptorIndex := 43, attributes := #[] }, { accessFlags := 10, nameIndex := 17, descriptorIndex := 12, attributes := #[] }] 49 2 #[] #[])
  fields := #[]
  methods := #[k1m0, k1m1, k1m2]
  instanceTypes := #[]
  staticTypes := #[]
  resolved := Array.replicate 47 none
  statics := none }

def pool2 : Array CpInfo := pool [(1, .class_ 2), (0, u "java/lang/constant/Constable"), (0, .class_ 4), (0, u "java/lang/Object")] 6

/-- java/lang/constant/Constable -/
def k2 : Class := { plain "java/lang/constant/Constable" (some 0) with
  accessFlags := 1537
  interfaces := #[]
  cf := some (fileOf pool2 1 #[] #[] 1537 3 #[] #[])
  fields := #[]
  methods := #[]
  instanceTypes := #[]
  staticTypes := #[]
  resolved := Array.replicate 11 none
  statics := none }

def pool3 : Array CpInfo := pool [(1, .class_ 2), (0, u "java/lang/Comparable"), (0, .class_ 4), (0, u "java/lang/Object")] 7

/-- java/lang/Comparable -/
def k3 : Class := { plain "java/lang/Comparable" (some 0) with
  accessFlags := 1537
  interfaces := #[]
  cf := some (fileOf pool3 1 #[] #[] 1537 3 #[] #[])
  fields := #[]
  methods := #[]
  instanceTypes := #[]
  staticTypes := #[]
  resolved := Array.replicate 12 none
  statics := none }

def pool4 : Array CpInfo := pool [(1, .class_ 2), (0, u "java/io/Serializable"), (0, .class_ 4), (0, u "java/lang/Object")] 2

/-- java/io/Serializable -/
def k4 : Class := { plain "java/io/Serializable" (some 0) with
  accessFlags := 1537
  interfaces := #[]
  cf := some (fileOf pool4 1 #[] #[] 1537 3 #[] #[])
  fields := #[]
  methods := #[]
  instanceTypes := #[]
  staticTypes := #[]
  resolved := Array.replicate 7 none
  statics := none }

def pool5 : Array CpInfo := pool [(2, .class_ 4), (1, u "java/lang/Enum"), (0, u "name"), (0, u "Ljava/lang/String;"), (2, u "ordinal"), (0, u "I"), (1, .class_ 14), (1, u "java/lang/Object"), (4, u "hash"), (86, .class_ 108), (1, u "java/lang/Enum$EnumDesc"), (2, .class_ 112), (0, u "java/lang/constant/Constable"), (0, .class_ 114), (0, u "java/lang/Comparable"), (0, .class_ 116), (0, u "java/io/Serializable")] 87

/-- java/lang/Enum -/
def k5 : Class := { plain "java/lang/Enum" (some 0) with
  accessFlags := 1057
  interfaces := #[2, 3, 4]
  cf := some (fileOf pool5 2 #[.nestMembers #[106]] #[] 1057 12 #[111, 113, 115] #[{ accessFlags := 18, nameIndex := 5, descriptorIndex := 6, attributes := #[] }, { accessFlags := 18, nameIndex := 9, descriptorIndex := 10, attributes := #[] }, { accessFlags := 2, nameIndex := 19, descriptorIndex := 10, attributes := #[] }])
  fields := #[{ name := "name", type := (.object "java/lang/String"), accessFlags := 18, slot := 0, constantValue := 0 }, { name := "ordinal", type := .int, accessFlags := 18, slot := 1, constantValue := 0 }, { name := "hash", type := .int, accessFlags := 2, slot := 2, constantValue := 0 }]
  methods := #[]
  instanceTypes := #[(.object "java/lang/String"), .int, .int]
  staticTypes := #[]
  resolved := Array.replicate 204 none
  statics := none }

def pool6 : Array CpInfo := pool [(1, .class_ 2), (0, u "com/example/wellknit/wellknit/GeometryType"), (2, u "POINT"), (0, u "Lcom/example/wellknit/wellknit/GeometryType;"), (2, u "LINESTRING"), (2, u "POLYGON"), (2, u "MULTIPOINT"), (2, u "MULTILINESTRING"), (2, u "MULTIPOLYGON"), (2, u "GEOMETRYCOLLECTION"), (2, u "$VALUES"), (0, u "[Lcom/example/wellknit/wellknit/GeometryType;"), (6, .class_ 37), (1, u "java/lang/Enum"), (6, .fieldref 1 45), (0, .nameAndType 46 47), (0, u "code"), (0, u "I"), (2, u "keyword"), (0, u "Ljava/lang/String;"), (0, .fieldref 1 53), (0, .nameAndType 54 28), (0, u "TYPES"), (29, u "ofCode"), (0, u "(I)Lcom/example/wellknit/wellknit/GeometryType;")] 9

def k6c0 : Code := { maxStack := 2, maxLocals := 5, code := prog_6_method_4_code, exceptionTable := #[], attributes := #[] }
def k6m0 : Method := { name := "ofCode", desc := "(I)Lcom/example/wellknit/wellknit/GeometryType;", sig := { parameters := [.int], returnType := some (.object "com/example/wellknit/wellknit/GeometryType") }, accessFlags := 8, code := some k6c0 }
/-- com/example/wellknit/wellknit/GeometryType -/
def k6 : Class := { plain "com/example/wellknit/wellknit/GeometryType" (some 5) with
  accessFlags := 16432
  interfaces := #[]
  cf := some (fileOf pool6 1 #[] #[{ accessFlags := 8, nameIndex := 84, descriptorIndex := 85, attributes := #[] }] 16432 35 #[] #[{ accessFlags := 16409, nameIndex := 5, descriptorIndex := 6, attributes := #[] }, { accessFlags := 16409, nameIndex := 9, descriptorIndex := 6, attributes := #[] }, { accessFlags := 16409, nameIndex := 12, descriptorIndex := 6, attributes := #[] }, { accessFlags := 16409, nameIndex := 15, descriptorIndex := 6, attributes := #[] }, { accessFlags := 16409, nameIndex := 18, descriptorIndex := 6, attributes := #[] }, { accessFlags := 16409, nameIndex := 21, descriptorIndex := 6, attributes := #[] }, { accessFlags := 16409, nameIndex := 24, descriptorIndex := 6, attributes := #[] }, { accessFlags := 26, nameIndex := 54, descriptorIndex := 28, attributes := #[] }, { accessFlags := 18, nameIndex := 46, descriptorIndex := 47, attributes := #[] }, { accessFlags := 18, nameIndex := 50, descriptorIndex := 51, attributes := #[] }, { accessFlags := 4122, nameIndex := 27, descriptorIndex := 28, attributes := #[] }])
  fields := #[{ name := "POINT", type := (.object "com/example/wellknit/wellknit/GeometryType"), accessFlags := 16409, slot := 0, constantValue := 0 }, { name := "LINESTRING", type := (.object "com/example/wellknit/wellknit/GeometryType"), accessFlags := 16409, slot := 1, constantValue := 0 }, { name := "POLYGON", type := (.object "com/example/wellknit/wellknit/GeometryType"), accessFlags := 16409, slot := 2, constantValue := 0 }, { name := "MULTIPOINT", type := (.object "com/example/wellknit/wellknit/GeometryType"), accessFlags := 16409, slot := 3, constantValue := 0 }, { name := "MULTILINESTRING", type := (.object "com/example/wellknit/wellknit/GeometryType"), accessFlags := 16409, slot := 4, constantValue := 0 }, { name := "MULTIPOLYGON", type := (.object "com/example/wellknit/wellknit/GeometryType"), accessFlags := 16409, slot := 5, constantValue := 0 }, { name := "GEOMETRYCOLLECTION", type := (.object "com/example/wellknit/wellknit/GeometryType"), accessFlags := 16409, slot := 6, constantValue := 0 }, { name := "TYPES", type := (.array (.object "com/example/wellknit/wellknit/GeometryType")), accessFlags := 26, slot := 7, constantValue := 0 }, { name := "code", type := .int, accessFlags := 18, slot := 3, constantValue := 0 }, { name := "keyword", type := (.object "java/lang/String"), accessFlags := 18, slot := 4, constantValue := 0 }, { name := "$VALUES", type := (.array (.object "com/example/wellknit/wellknit/GeometryType")), accessFlags := 4122, slot := 8, constantValue := 0 }]
  methods := #[k6m0]
  instanceTypes := #[(.object "java/lang/String"), .int, .int, .int, (.object "java/lang/String")]
  staticTypes := #[(.object "com/example/wellknit/wellknit/GeometryType"), (.object "com/example/wellknit/wellknit/GeometryType"), (.object "com/example/wellknit/wellknit/GeometryType"), (.object "com/example/wellknit/wellknit/GeometryType"), (.object "com/example/wellknit/wellknit/GeometryType"), (.object "com/example/wellknit/wellknit/GeometryType"), (.object "com/example/wellknit/wellknit/GeometryType"), (.array (.object "com/example/wellknit/wellknit/GeometryType")), (.array (.object "com/example/wellknit/wellknit/GeometryType"))]
  resolved := Array.replicate 95 none
  statics := some 0 }

def pool7 : Array CpInfo := pool [(1, u "java/lang/Cloneable"), (0, .class_ 1), (0, u "java/lang/Object"), (0, .class_ 3)] 3

/-- java/lang/Cloneable -/
def k7 : Class := { plain "java/lang/Cloneable" (some 0) with
  accessFlags := 1537
  interfaces := #[]
  cf := some (fileOf pool7 2 #[] #[] 1537 4 #[] #[])
  fields := #[]
  methods := #[]
  instanceTypes := #[]
  staticTypes := #[]
  resolved := Array.replicate 8 none
  statics := none }

/-- the primitive byte -/
def k8 : Class := { plain "byte" none with kind := .primitive 'B', accessFlags := 0x411 }
/-- [B -/
def k9 : Class := { plain "[B" (some 0) with kind := .array 8 .byte, interfaces := #[7, 4], accessFlags := 1041 }

/-- the primitive int -/
def k10 : Class := { plain "int" none with kind := .primitive 'I', accessFlags := 0x411 }
/-- [I -/
def k11 : Class := { plain "[I" (some 0) with kind := .array 10 .int, interfaces := #[7, 4], accessFlags := 1041 }

/-- [Lcom/example/wellknit/wellknit/GeometryType; -/
def k12 : Class := { plain "[Lcom/example/wellknit/wellknit/GeometryType;" (some 0) with kind := .array 6 (.object "com/example/wellknit/wellknit/GeometryType"), interfaces := #[7, 4], accessFlags := 1041 }

def heap : Heap := #[{ cls := 6, slots := #[.ref 2, .ref 3, .ref 4, .ref 5, .ref 6, .ref 7, .ref 8, .ref 1, .null], vm := .statics 6 },
  { cls := 12, slots := #[.ref 2, .ref 3, .ref 4, .ref 5, .ref 6, .ref 7, .ref 8], vm := .none },
  { cls := 6, slots := #[.null, .int 0, .int 0, .int 1, .null], vm := .none },
  { cls := 6, slots := #[.null, .int 1, .int 0, .int 2, .null], vm := .none },
  { cls := 6, slots := #[.null, .int 2, .int 0, .int 3, .null], vm := .none },
  { cls := 6, slots := #[.null, .int 3, .int 0, .int 4, .null], vm := .none },
  { cls := 6, slots := #[.null, .int 4, .int 0, .int 5, .null], vm := .none },
  { cls := 6, slots := #[.null, .int 5, .int 0, .int 6, .null], vm := .none },
  { cls := 6, slots := #[.null, .int 6, .int 0, .int 7, .null], vm := .none }]
def classes : Array Class := #[k0, k1, k2, k3, k4, k5, k6, k7, k8, k9, k10, k11, k12]
def interned : List (Array UInt16 × Addr) := []
def slotsUsed : Nat := 51
def theMethod : MethodId := ⟨1, 1⟩
def args0 : Array Value := #[.int 5, .int 6]
def aboutOver (below : List Frame) : State where
  vm := { classes := classes, interned := interned.toArray }
  heap := heap
  slotsUsed := slotsUsed
  threads := #[{ frames := .invoking theMethod args0 :: below }]
def below0 : List Frame := [.native { method := ⟨0, 0⟩, args := #[] }]
def about1 : State := aboutOver below0
def p0 : Program := .bare "" "" ""
def e0 : Env := launch0.env 0 0 0
theorem w_frames : about1.frames = Frame.invoking theMethod args0 :: below0 := rfl
set_option maxRecDepth 65536 in
theorem w_args : argsFit about1.vm theMethod args0 = true := by decide +kernel
set_option maxRecDepth 65536 in
theorem w_heap : heapFits about1 = true := by decide +kernel
set_option maxRecDepth 65536 in
theorem w_runnable : about1.curStatus? = some .runnable := by decide +kernel
set_option maxRecDepth 65536 in
theorem w_alone : about1.alone = true := by decide +kernel
set_option maxRecDepth 65536 in
theorem w_named : about1.methodNamed? x = some theMethod := by decide +kernel
set_option maxRecDepth 65536 in
theorem w_hears : about1.hears theMethod below0 = true := by decide +kernel
set_option maxRecDepth 65536 in
theorem w_ripe : about1.ripe theMethod args0 below0 = true := by decide +kernel
theorem w_running : about1.status = .running := rfl
set_option maxRecDepth 65536 in
theorem w_room : about1.hasRoom e0.platform room_1 = true :=
  launch0.hasRoom_least _ room_1 (by decide +kernel) (by decide +kernel) (by decide +kernel) (by decide +kernel) (by decide +kernel) (by decide +kernel)
theorem allAtoms_all (ts : List Jvm.Cond) (a : Array Jvm.Value) (st : Jvm.State) : (allAtoms ts).before a st = ts.all (fun c => c.before a st) := by
  induction ts with
  | nil => rfl
  | cons c t ih =>
    show (Jvm.Cond.and c (allAtoms t)).before a st = _
    rw [Jvm.Cond.before_and, ih, List.all_cons]
def words1 : List Jvm.Cond := Jvm.Cond.code x code maxLocals ret :: tables_1
/-- a 'code' word, met by the world's own term for the bytes: nothing is compared byte by byte -/
theorem code_word {y : MethodName} {bytes : ByteArray} {mx : Nat} {rt : Option FieldType} {a : Array Value} {s : State} {m : MethodId} {meth : Method} {c : Code} (h1 : s.methodNamed? y = some m) (h2 : s.vm.method? m = some meth) (h3 : meth.code = some c) (h4 : c.code = bytes)
    (h5 : (c.maxLocals == mx && c.exceptionTable.isEmpty && decide (c.maxStack ≤ mostOperands) && decide (meth.sig.returnType = rt) && !meth.locks && decide (parseMethodDescriptor y.desc = some meth.sig)) = true) : (Jvm.Cond.code y bytes mx rt).before a s = true := by
  simp only [Bool.and_eq_true, beq_iff_eq, Bool.not_eq_true', decide_eq_true_eq] at h5
  obtain ⟨⟨⟨⟨⟨g1, g2⟩, g3⟩, g4⟩, g5⟩, g6⟩ := h5
  simp [Cond.before, Cond.holds, Cond.value, h1, h2, h3, h4, g1, g2, g3, g4, g5, g6]
def isCode : Jvm.Cond → Bool
  | .code _ _ _ _ => true
  | _ => false
theorem all_split {L : List Jvm.Cond} {P : Jvm.Cond → Bool} (h1 : L.all (fun c => isCode c || P c) = true) (h2 : ∀ c ∈ L.filter isCode, P c = true) : L.all P = true := by
  refine List.all_eq_true.mpr fun c hc => ?_
  have h := List.all_eq_true.mp h1 c hc
  rcases Bool.eq_false_or_eq_true (isCode c) with hi | hi
  · exact h2 c (List.mem_filter.mpr ⟨hc, hi⟩)
  · simpa [hi] using h
set_option maxRecDepth 65536 in
theorem w_c0 : (Jvm.Cond.code x code maxLocals ret).before args0 about1 = true := code_word (m := ⟨1, 1⟩) (meth := k1m1) (c := k1c1) (by decide +kernel) rfl rfl rfl (by decide +kernel)
set_option maxRecDepth 65536 in
theorem w_c1 : (Jvm.Cond.code ({ cls := "com/example/wellknit/wellknit/GeometryType", name := "ofCode", desc := "(I)Lcom/example/wellknit/wellknit/GeometryType;" } : Jvm.MethodName) prog_6_method_4_code (5 : Nat) (Option.some (Jvm.ClassFile.FieldType.object "com/example/wellknit/wellknit/GeometryType"))).before args0 about1 = true := code_word (m := ⟨6, 0⟩) (meth := k6m0) (c := k6c0) (by decide +kernel) rfl rfl rfl (by decide +kernel)
set_option maxRecDepth 65536 in
theorem w_c2 : (Jvm.Cond.code ({ cls := "com/example/wellknit/wellknit/GeometryTypeOfCodePinLaw", name := "expected", desc := "(I)Lcom/example/wellknit/wellknit/GeometryType;" } : Jvm.MethodName) method_3_code (1 : Nat) (Option.some (Jvm.ClassFile.FieldType.object "com/example/wellknit/wellknit/GeometryType"))).before args0 about1 = true := code_word (m := ⟨1, 2⟩) (meth := k1m2) (c := k1c2) (by decide +kernel) rfl rfl rfl (by decide +kernel)
def codes1 : List Jvm.Cond := [Jvm.Cond.code x code maxLocals ret, Jvm.Cond.code ({ cls := "com/example/wellknit/wellknit/GeometryType", name := "ofCode", desc := "(I)Lcom/example/wellknit/wellknit/GeometryType;" } : Jvm.MethodName) prog_6_method_4_code (5 : Nat) (Option.some (Jvm.ClassFile.FieldType.object "com/example/wellknit/wellknit/GeometryType")), Jvm.Cond.code ({ cls := "com/example/wellknit/wellknit/GeometryTypeOfCodePinLaw", name := "expected", desc := "(I)Lcom/example/wellknit/wellknit/GeometryType;" } : Jvm.MethodName) method_3_code (1 : Nat) (Option.some (Jvm.ClassFile.FieldType.object "com/example/wellknit/wellknit/GeometryType"))]
set_option maxRecDepth 65536 in
theorem codes_eq : words1.filter isCode = codes1 := rfl
theorem w_codes : ∀ c ∈ words1.filter isCode, c.before args0 about1 = true := by
  rw [codes_eq]
  intro c hc
  simp only [codes1, List.mem_cons, List.not_mem_nil, or_false] at hc
  rcases hc with rfl | rfl | rfl
  · exact w_c0
  · exact w_c1
  · exact w_c2
set_option maxRecDepth 65536 in
theorem w_t1 : (words1.take 24).all (fun c => isCode c || c.before args0 about1) = true := by decide +kernel
set_option maxRecDepth 65536 in
theorem w_t2 : (words1.drop 24).all (fun c => isCode c || c.before args0 about1) = true := by decide +kernel
theorem w_tables : (allAtoms (Jvm.Cond.code x code maxLocals ret :: tables_1)).before args0 about1 = true := by
  rw [allAtoms_all]
  show words1.all (fun c => c.before args0 about1) = true
  refine all_split ?_ w_codes
  rw [← List.take_append_drop 24 words1, List.all_append, w_t1, w_t2]
  rfl
set_option maxRecDepth 65536 in
theorem w_case : (Jvm.Cond.and given_1 narrow_1).before args0 about1 = true := by decide +kernel
theorem w_applies : (headSpec (Jvm.Cond.code x code maxLocals ret :: tables_1) room_1).applies x e0.platform about1 = true :=
  (Spec.applies_iff w_frames).mpr ⟨w_running, w_runnable, w_alone, w_named, w_hears, w_ripe, w_room, w_tables⟩
theorem atStart : AtStart classFile x code maxLocals ret World_1 tables_1 room_1 Calls_1 rest_1 Pre_1 launch0 p0 e0 about1 theMethod args0 below0 :=
  ⟨lists_1, trivial, launch0.admits_env _ _ _, launch0.least_env, fairChoices_fair.cas, fairChoices_fair.clock, w_frames, w_args, w_heap, w_applies, trivial, trivial, w_case⟩
end start1
theorem witness_1 : WitnessClaimed_1 := ⟨start1.p0, start1.e0, start1.about1, start1.theMethod, start1.args0, start1.below0, start1.atStart⟩
end Jvm.Pilot.@@N@@

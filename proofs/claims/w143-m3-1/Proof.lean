import JvmDerived
import JvmDerived.Pilot.@@N@@Statement
import JvmDerived.Pilot.@@N@@Code
set_option linter.unusedVariables false
set_option linter.unusedSimpArgs false
@@BLOCK:NumsL.lean.txt@@
namespace Jvm.RoadKit
open Sem ClassFile Op Lib Jvm.Stand Jvm.Free Jvm.LawKit
section New
variable {p : Program} {l : Launch} {e : Env} {R : Room} {s : State} {m : MethodId} {args : Array Value} {below : List Frame} {meth : Method} {c : Code} {T : State} {locs : List Loc} {cells slots : Nat}
theorem retI (X : Stand p l e R s m args below meth c T locs cells slots) (hx : p.tables.exec = Jvm.exec) {pc : Nat} {Ls : Array Slot} {z : Int32} {rest : List Value} (hret : meth.sig.returnType = some .int) (hd : decode c.code pc = .ok (.ireturn, 1)) {fs : List Frame}
    (hl : ∀ (f : JFrame) (acts : List Action), f.method = m → f.locked = none → f.entered = [] → (doReturn e (T.setTop f) acts (some (.int z))).1 = T.setFrames fs) : Steps p.tables e below (T.setTop (mkF m pc Ls (.int z :: rest))) (T.setFrames fs) := by
  have hm' : T.vm.method? m = some meth := X.method'
  have hn : narrow .int (.int z) = .int z := rfl
  show Steps p.tables e below (T.setTop { method := m, pc := pc, locals := Ls, stack := _ :: rest, locked := none }) _
  jvm_step X.here [X.here.top, hx, hd, hm', hret, hn]
  first | (intro acts; rw [hl _ acts rfl rfl rfl]) | rw [hl _ _ rfl rfl rfl]
  exact Steps.refl _
end New
end Jvm.RoadKit
namespace Jvm.Pilot.@@N@@
open Jvm Jvm.ClassFile Sem Op Lib Jvm.Free Jvm.Stand Jvm.LawKit Jvm.RoadKit Bundle Jvm.Pilot.@@N@@.Jvm.D
theorem own_eqint {args : Array Value} {first s : State} {o : Option Outcome} {idx : List Nat} {t : Term} {k : Int32} (h : (Jvm.Cond.eq t (.int k)).value args first o s idx = some true) : t.eval args first o idx s = some (.int k) := by
  obtain ⟨x, y, hx, hy, hk, hk'⟩ := cmp_v (Or.inl h)
  have ey : y = .int k := (Option.some.inj ((Term.int_eval k).symm.trans hy)).symm
  subst ey
  obtain ⟨z, rfl⟩ := hk'
  have hv : (Jvm.Cond.eq t (.int k)).value args first o s idx = some (decide (z = k)) := by simp [Cond.value, hx, hy]
  have := gotT hv h
  rw [hx, this]
theorem own_eqref {args : Array Value} {first s : State} {o : Option Outcome} {idx : List Nat} {t u : Term} {v : Value} (h : (Jvm.Cond.eq t u).value args first o s idx = some true) (hu : u.eval args first o idx s = some v) (hv : v.isRef = true) : t.eval args first o idx s = some v := by
  obtain ⟨x, y, hx, hy, hk, hk'⟩ := cmp_v (Or.inl h)
  have ey : y = v := Option.some.inj (hy.symm.trans hu)
  subst ey
  have hxr : x.isRef = true := by cases y <;> simp [Value.isRef] at hv <;> exact hk'.2
  have := gotT (eq_R hx hy hxr hv) h
  rw [hx, this]
theorem own_fld {args : Array Value} {s : State} {t : Term} {C n d : String} {k : Int32} {a : Addr} (ht : t.eval args s none [] s = some (.ref a)) (h : (Jvm.Cond.eq (.field t C n d) (.int k)).value args s none s [] = some true) : Fld s s.heap a C n d (.int k) := Fld.start ((fld_at ht).symm.trans (own_eqint h))
theorem own_fld_inj {Z : State} {h : Heap} {a : Addr} {C n d : String} {v w : Value} (F : Fld Z h a C n d v) (G : Fld Z h a C n d w) : v = w := by
  obtain ⟨c1, cf1, k1, i1, f1, h1, h2, -, -, -, -, h3⟩ := F
  obtain ⟨c2, cf2, k2, i2, f2, g1, g2, -, -, -, -, g3⟩ := G
  rw [h1] at g1; cases g1
  rw [h2] at g2; cases g2
  exact Option.some.inj (h3.symm.trans g3)
theorem own_ne {Z : State} {h : Heap} {a b : Addr} {C n d : String} {i j : Int32} (F : Fld Z h a C n d (.int i)) (G : Fld Z h b C n d (.int j)) (hij : ¬ i = j) : ¬ a = b := fun e => by
  subst e
  exact hij (Value.int.inj (own_fld_inj F G))
theorem own_keep_ext {h h' : Heap} (K : Keep h h' []) : Ext h h' := ⟨K.1, fun a c q => K.2.1 a c q nin0⟩
theorem own_sta_keep {Z : State} {h h' : Heap} {C n d C' : String} {v : Value} {b : Addr} (F : Sta Z h C n d v) (K : Keep h h' [b]) (E : Exa Z h b C') : Sta Z h' C n d v := by
  obtain ⟨cf, i, k, f, st, cell, h1, h2, h3, h4, h5, h6, h7⟩ := F
  obtain ⟨cell', k', g1, g2, g3, g4, g5⟩ := E
  refine ⟨cf, i, k, f, st, cell, h1, h2, h3, h4, K.2.1 st cell h5 (ninS (fun q => ?_) nin0), h6, h7⟩
  subst q
  rw [h5] at g1; cases g1
  rw [h6] at g4; cases g4
theorem own_at {s : State} {w : Addr} {cl : Cell} {ty : FieldType} (A : Arr s s.heap w cl ty) : s.arrayAt? w = some cl := Arr.fin (State.Warmed39.refl s).alike A
theorem own_len {args : Array Value} {s : State} {t : Term} {k : Int32} {w : Addr} {cl : Cell} {ty : FieldType} (ht : t.eval args s none [] s = some (.ref w)) (A : Arr s s.heap w cl ty) (h : (Jvm.Cond.eq (.length t) (.int k)).value args s none s [] = some true) : cl.slots.size = k.toNatClampNeg ∧ ¬ k < 0 ∧ cl.slots.size < 2 ^ 31 := by
  have e := own_eqint h
  have ha := own_at A
  by_cases h1 : cl.slots.size < 2 ^ 31
  · rw [len_f ht ha h1] at e
    have e2 : cl.slots.size.toInt32 = k := Value.int.inj (Option.some.inj e)
    subst e2
    have e3 := len_toInt h1
    refine ⟨?_, ?_, h1⟩
    · show cl.slots.size = (cl.slots.size.toInt32).toInt.toNat
      rw [e3]; rfl
    · rw [Int32.lt_iff_toInt_lt, e3]
      show ¬ ((cl.slots.size : Int) < 0)
      omega
  · simp [Term.eval, ht, ha, h1] at e
theorem own_idx {i : Nat} (hi : i < 2 ^ 31) : i.toInt32.toNatClampNeg = i ∧ ¬ i.toInt32 < 0 := by
  have e3 := len_toInt hi
  refine ⟨?_, ?_⟩
  · show (i.toInt32).toInt.toNat = i
    rw [e3]; rfl
  · rw [Int32.lt_iff_toInt_lt, e3]
    show ¬ ((i : Int) < 0)
    omega
theorem own_elem {args : Array Value} {s : State} {t : Term} {j v : Int32} {w : Addr} {cl : Cell} {ty : FieldType} (ht : t.eval args s none [] s = some (.ref w)) (A : Arr s s.heap w cl ty) (h : (Jvm.Cond.eq (.elem t (.int j)) (.int v)).value args s none s [] = some true) (hj : ¬ j < 0) : cl.slots[j.toNatClampNeg]? = some (.int v) := by
  have e := own_eqint h
  rw [elem_f ht (Term.int_eval j) (own_at A) hj] at e
  exact e
theorem own_elemR {args : Array Value} {s : State} {t u : Term} {j : Int32} {v : Value} {w : Addr} {cl : Cell} {ty : FieldType} (ht : t.eval args s none [] s = some (.ref w)) (A : Arr s s.heap w cl ty) (h : (Jvm.Cond.eq (.elem t (.int j)) u).value args s none s [] = some true) (hu : u.eval args s none [] s = some v) (hv : v.isRef = true) (hj : ¬ j < 0) : cl.slots[j.toNatClampNeg]? = some v := by
  have e := own_eqref h hu hv
  rw [elem_f ht (Term.int_eval j) (own_at A) hj] at e
  exact e
theorem own_or {args : Array Value} {first s : State} {o : Option Outcome} {idx : List Nat} {a b : Jvm.Cond} (h : (Jvm.Cond.or a b).value args first o s idx = some true) (ha : a.value args first o s idx = some false) : b.value args first o s idx = some true := by
  simpa [Cond.value, ha] using h
theorem own_ltl {i : Nat} {k : Int32} (hi : i < 2 ^ 31) (h : (i : Int) < k.toInt) : i.toInt32 < k := by
  rw [Int32.lt_iff_toInt_lt, len_toInt hi]; exact h
theorem own_gel {i : Nat} {k : Int32} (hi : i < 2 ^ 31) (h : k.toInt ≤ (i : Int)) : ¬ i.toInt32 < k := by
  rw [Int32.lt_iff_toInt_lt, len_toInt hi]; omega
theorem own_atidx {args : Array Value} {s : State} {t : Term} {v : Int32} {w : Addr} {cl : Cell} {ty : FieldType} {i : Nat} (ht : t.eval args s none [i] s = some (.ref w)) (A : Arr s s.heap w cl ty) (hi : i < 2 ^ 31) (h : (Jvm.Cond.eq (.elem t (.index 0)) (.int v)).value args s none s [i] = some true) : cl.slots[i]? = some (.int v) := by
  have e := own_eqint h
  rw [elem_f (j := i.toInt32) ht rfl (own_at A) (own_idx hi).2, (own_idx hi).1] at e
  exact e
theorem own_all_a {args : Array Value} {s : State} {t : Term} {K v : Int32} {w : Addr} {cl : Cell} {ty : FieldType} (ht : ∀ idx, t.eval args s none idx s = some (.ref w)) (A : Arr s s.heap w cl ty) (hz : cl.slots.size < 2 ^ 31)
    (h : (Jvm.Cond.all t (.or (.le (.int K) (.index 0)) (.eq (.elem t (.index 0)) (.int v)))).value args s none s [] = some true) (i : Nat) (hi : i < cl.slots.size) (hK : i.toInt32 < K) : cl.slots[i]? = some (.int v) := by
  have h1 := Cond.all_elim (ht []) (own_at A) h i hi
  have h2 := own_or h1 (by
    have q : (Jvm.Cond.le (.int K) (.index 0)).value args s none s [i] = some (decide (K ≤ i.toInt32)) := Cond.le_ints rfl rfl
    rw [q]; simp [Int32.not_le.mpr hK])
  exact own_atidx (ht _) A (by omega) h2
theorem own_all_b {args : Array Value} {s : State} {t : Term} {lo K v : Int32} {w : Addr} {cl : Cell} {ty : FieldType} (ht : ∀ idx, t.eval args s none idx s = some (.ref w)) (A : Arr s s.heap w cl ty) (hz : cl.slots.size < 2 ^ 31)
    (h : (Jvm.Cond.all t (.or (.lt (.index 0) (.int lo)) (.or (.le (.int K) (.index 0)) (.eq (.elem t (.index 0)) (.int v))))).value args s none s [] = some true) (i : Nat) (hi : i < cl.slots.size) (hL : ¬ i.toInt32 < lo) (hK : i.toInt32 < K) : cl.slots[i]? = some (.int v) := by
  have h1 := Cond.all_elim (ht []) (own_at A) h i hi
  have h2 := own_or h1 (by
    have q : (Jvm.Cond.lt (.index 0) (.int lo)).value args s none s [i] = some (decide (i.toInt32 < lo)) := Cond.lt_ints rfl rfl
    rw [q]; simp [hL])
  have h3 := own_or h2 (by
    have q : (Jvm.Cond.le (.int K) (.index 0)).value args s none s [i] = some (decide (K ≤ i.toInt32)) := Cond.le_ints rfl rfl
    rw [q]; simp [Int32.not_le.mpr hK])
  exact own_atidx (ht _) A (by omega) h3
def tcharW (c : Int32) : Int32 := if ¬ c < (97 : Int32) ∧ ¬ (122 : Int32) < c then 1 else if ¬ c < (65 : Int32) ∧ ¬ (90 : Int32) < c then 1 else if ¬ c < (48 : Int32) ∧ ¬ (57 : Int32) < c then 1 else if c = (33 : Int32) ∨ c = (35 : Int32) ∨ c = (36 : Int32) ∨ c = (37 : Int32) ∨ c = (38 : Int32) ∨ c = (39 : Int32) ∨ c = (42 : Int32) ∨ c = (43 : Int32) ∨ c = (45 : Int32) ∨ c = (46 : Int32) ∨ c = (94 : Int32) ∨ c = (95 : Int32) ∨ c = (96 : Int32) ∨ c = (124 : Int32) ∨ c = (126 : Int32) then 1 else 0
def tabW (i : Nat) : Int32 := if i < 33 then 0 else if i < 34 then 1 else if i < 35 then 0 else if i < 40 then 1 else if i < 41 then 0 else if i < 42 then 0 else if i < 43 then 1 else if i < 44 then 1 else if i < 45 then 0 else if i < 46 then 1 else if i < 47 then 1 else if i < 48 then 0 else if i < 58 then 1 else if i < 65 then 0 else if i < 91 then 1 else if i < 92 then 0 else if i < 93 then 0 else if i < 94 then 0 else if i < 123 then 1 else if i < 124 then 0 else if i < 125 then 1 else if i < 126 then 0 else if i < 127 then 1 else 0
theorem own_t01 (c : Int32) : tcharW c = 0 ∨ tcharW c = 1 := by
  unfold tcharW
  split
  · exact Or.inr rfl
  · split
    · exact Or.inr rfl
    · split
      · exact Or.inr rfl
      · split
        · exact Or.inr rfl
        · exact Or.inl rfl
theorem own_tab : ∀ i : Nat, i < 128 → tabW i = tcharW i.toInt32 := by decide +kernel
theorem own_tret (c : Int32) : (if c < 128 then tcharW c else 0) = tcharW c := by
  by_cases h : c < 128
  · rw [if_pos h]
  · rw [if_neg h]
    rw [Int32.lt_iff_toInt_lt, show (128 : Int32).toInt = 128 from rfl] at h
    have hb : ∀ k : Int32, k.toInt < 128 → k < c := fun k hk => by rw [Int32.lt_iff_toInt_lt]; omega
    have hne : ∀ k : Int32, k.toInt < 128 → ¬ c = k := fun k hk e => by subst e; omega
    unfold tcharW
    rw [if_neg (fun q => q.2 (hb _ (by decide))), if_neg (fun q => q.2 (hb _ (by decide))), if_neg (fun q => q.2 (hb _ (by decide))), if_neg]
    rintro (q | q | q | q | q | q | q | q | q | q | q | q | q | q | q)
    all_goals exact absurd q (hne _ (by decide))
theorem own_i2c0 (x : Int32) : ¬ x.toUInt32.toUInt16.toUInt32.toInt32 < 0 := by
  have := (c_i2c x).2.1
  rw [Int32.lt_iff_toInt_lt]
  show ¬ (_ < (0 : Int))
  omega
theorem d2_0 : decode method_3_code 0 = .ok (.iload_n 0, 1) := by decide +kernel
theorem d2_1 : decode method_3_code 1 = .ok (.bipush 97, 2) := by decide +kernel
theorem d2_3 : decode method_3_code 3 = .ok (.if_icmp .lt 11, 3) := by decide +kernel
theorem d2_6 : decode method_3_code 6 = .ok (.iload_n 0, 1) := by decide +kernel
theorem d2_7 : decode method_3_code 7 = .ok (.bipush 122, 2) := by decide +kernel
theorem d2_9 : decode method_3_code 9 = .ok (.if_icmp .gt 5, 3) := by decide +kernel
theorem d2_12 : decode method_3_code 12 = .ok (.iconst 1, 1) := by decide +kernel
theorem d2_13 : decode method_3_code 13 = .ok (.ireturn, 1) := by decide +kernel
theorem d2_14 : decode method_3_code 14 = .ok (.iload_n 0, 1) := by decide +kernel
theorem d2_15 : decode method_3_code 15 = .ok (.bipush 65, 2) := by decide +kernel
theorem d2_17 : decode method_3_code 17 = .ok (.if_icmp .lt 11, 3) := by decide +kernel
theorem d2_20 : decode method_3_code 20 = .ok (.iload_n 0, 1) := by decide +kernel
theorem d2_21 : decode method_3_code 21 = .ok (.bipush 90, 2) := by decide +kernel
theorem d2_23 : decode method_3_code 23 = .ok (.if_icmp .gt 5, 3) := by decide +kernel
theorem d2_26 : decode method_3_code 26 = .ok (.iconst 1, 1) := by decide +kernel
theorem d2_27 : decode method_3_code 27 = .ok (.ireturn, 1) := by decide +kernel
theorem d2_28 : decode method_3_code 28 = .ok (.iload_n 0, 1) := by decide +kernel
theorem d2_29 : decode method_3_code 29 = .ok (.bipush 48, 2) := by decide +kernel
theorem d2_31 : decode method_3_code 31 = .ok (.if_icmp .lt 11, 3) := by decide +kernel
theorem d2_34 : decode method_3_code 34 = .ok (.iload_n 0, 1) := by decide +kernel
theorem d2_35 : decode method_3_code 35 = .ok (.bipush 57, 2) := by decide +kernel
theorem d2_37 : decode method_3_code 37 = .ok (.if_icmp .gt 5, 3) := by decide +kernel
theorem d2_40 : decode method_3_code 40 = .ok (.iconst 1, 1) := by decide +kernel
theorem d2_41 : decode method_3_code 41 = .ok (.ireturn, 1) := by decide +kernel
theorem d2_42 : decode method_3_code 42 = .ok (.iload_n 0, 1) := by decide +kernel
theorem d2_43 : decode method_3_code 43 = .ok (.bipush 33, 2) := by decide +kernel
theorem d2_45 : decode method_3_code 45 = .ok (.if_icmp .eq 87, 3) := by decide +kernel
theorem d2_48 : decode method_3_code 48 = .ok (.iload_n 0, 1) := by decide +kernel
theorem d2_49 : decode method_3_code 49 = .ok (.bipush 35, 2) := by decide +kernel
theorem d2_51 : decode method_3_code 51 = .ok (.if_icmp .eq 81, 3) := by decide +kernel
theorem d2_54 : decode method_3_code 54 = .ok (.iload_n 0, 1) := by decide +kernel
theorem d2_55 : decode method_3_code 55 = .ok (.bipush 36, 2) := by decide +kernel
theorem d2_57 : decode method_3_code 57 = .ok (.if_icmp .eq 75, 3) := by decide +kernel
theorem d2_60 : decode method_3_code 60 = .ok (.iload_n 0, 1) := by decide +kernel
theorem d2_61 : decode method_3_code 61 = .ok (.bipush 37, 2) := by decide +kernel
theorem d2_63 : decode method_3_code 63 = .ok (.if_icmp .eq 69, 3) := by decide +kernel
theorem d2_66 : decode method_3_code 66 = .ok (.iload_n 0, 1) := by decide +kernel
theorem d2_67 : decode method_3_code 67 = .ok (.bipush 38, 2) := by decide +kernel
theorem d2_69 : decode method_3_code 69 = .ok (.if_icmp .eq 63, 3) := by decide +kernel
theorem d2_72 : decode method_3_code 72 = .ok (.iload_n 0, 1) := by decide +kernel
theorem d2_73 : decode method_3_code 73 = .ok (.bipush 39, 2) := by decide +kernel
theorem d2_75 : decode method_3_code 75 = .ok (.if_icmp .eq 57, 3) := by decide +kernel
theorem d2_78 : decode method_3_code 78 = .ok (.iload_n 0, 1) := by decide +kernel
theorem d2_79 : decode method_3_code 79 = .ok (.bipush 42, 2) := by decide +kernel
theorem d2_81 : decode method_3_code 81 = .ok (.if_icmp .eq 51, 3) := by decide +kernel
theorem d2_84 : decode method_3_code 84 = .ok (.iload_n 0, 1) := by decide +kernel
theorem d2_85 : decode method_3_code 85 = .ok (.bipush 43, 2) := by decide +kernel
theorem d2_87 : decode method_3_code 87 = .ok (.if_icmp .eq 45, 3) := by decide +kernel
theorem d2_90 : decode method_3_code 90 = .ok (.iload_n 0, 1) := by decide +kernel
theorem d2_91 : decode method_3_code 91 = .ok (.bipush 45, 2) := by decide +kernel
theorem d2_93 : decode method_3_code 93 = .ok (.if_icmp .eq 39, 3) := by decide +kernel
theorem d2_96 : decode method_3_code 96 = .ok (.iload_n 0, 1) := by decide +kernel
theorem d2_97 : decode method_3_code 97 = .ok (.bipush 46, 2) := by decide +kernel
theorem d2_99 : decode method_3_code 99 = .ok (.if_icmp .eq 33, 3) := by decide +kernel
theorem d2_102 : decode method_3_code 102 = .ok (.iload_n 0, 1) := by decide +kernel
theorem d2_103 : decode method_3_code 103 = .ok (.bipush 94, 2) := by decide +kernel
theorem d2_105 : decode method_3_code 105 = .ok (.if_icmp .eq 27, 3) := by decide +kernel
theorem d2_108 : decode method_3_code 108 = .ok (.iload_n 0, 1) := by decide +kernel
theorem d2_109 : decode method_3_code 109 = .ok (.bipush 95, 2) := by decide +kernel
theorem d2_111 : decode method_3_code 111 = .ok (.if_icmp .eq 21, 3) := by decide +kernel
theorem d2_114 : decode method_3_code 114 = .ok (.iload_n 0, 1) := by decide +kernel
theorem d2_115 : decode method_3_code 115 = .ok (.bipush 96, 2) := by decide +kernel
theorem d2_117 : decode method_3_code 117 = .ok (.if_icmp .eq 15, 3) := by decide +kernel
theorem d2_120 : decode method_3_code 120 = .ok (.iload_n 0, 1) := by decide +kernel
theorem d2_121 : decode method_3_code 121 = .ok (.bipush 124, 2) := by decide +kernel
theorem d2_123 : decode method_3_code 123 = .ok (.if_icmp .eq 9, 3) := by decide +kernel
theorem d2_126 : decode method_3_code 126 = .ok (.iload_n 0, 1) := by decide +kernel
theorem d2_127 : decode method_3_code 127 = .ok (.bipush 126, 2) := by decide +kernel
theorem d2_129 : decode method_3_code 129 = .ok (.if_icmp .ne 7, 3) := by decide +kernel
theorem d2_132 : decode method_3_code 132 = .ok (.iconst 1, 1) := by decide +kernel
theorem d2_133 : decode method_3_code 133 = .ok (.goto 4, 3) := by decide +kernel
theorem d2_136 : decode method_3_code 136 = .ok (.iconst 0, 1) := by decide +kernel
theorem d2_137 : decode method_3_code 137 = .ok (.ireturn, 1) := by decide +kernel
theorem pn_rm2 : plainName "com/example/bouncer/bouncer/http/FieldsIsTokenCharacterPinLaw" = true := by first | (simp [plainName, overriddenIn]; done) | decide +kernel
theorem ef_rm2 (m : MethodId) (p1 : Int32) : entryFrame m #[(.int p1)] 1 = mkF m 0 #[.val (.int p1)] [] := by first | (simp [entryFrame, mkF, argsToLocals, Value.category]; done) | rfl
def Q_rm2 (Z : State) (p1 : Int32) (r : Int32) (h0 : Heap) (n0 : Nat) (v : Option Value) (h : Heap) (L : List Loc) : Prop := v = some (.int r) ∧ Fr n0 L ∧ h = h0
set_option maxRecDepth 65536 in
set_option maxHeartbeats 40000000 in
theorem rm2 (l : Launch) (Z : State) (a0 : Array Value) (hw : ∀ d ∈ tables_1, d.before a0 Z = true) (ws : List Jvm.Cond) (p1 : Int32) (r : Int32) (h0 : Heap) (n0 : Nat) (Z0 : n0 ≤ h0.size) (hret : tcharW p1 = r) :
    MetFree l (⟨"com/example/bouncer/bouncer/http/FieldsIsTokenCharacterPinLaw", "tchar", "(C)Z"⟩ : MethodName) (head1 (Jvm.Cond.code (⟨"com/example/bouncer/bouncer/http/FieldsIsTokenCharacterPinLaw", "tchar", "(C)Z"⟩ : MethodName) method_3_code 1 (some .boolean) :: ws) ({ frames := 0, cells := 0, slots := 0, locals := 0 } : Room)) (fun a U => a = #[(.int p1)] ∧ Z.Warmed39 U.vm ∧ U.heap = h0) (fun _ _ _ _ _ => True) (fun _ U o U' => ∃ v L, o = .returned v ∧ Q_rm2 Z p1 r h0 n0 v U'.heap L ∧ FrameEnd U o U' L ({ frames := 0, cells := 0, slots := 0, locals := 0 } : Room).cells ({ frames := 0, cells := 0, slots := 0, locals := 0 } : Room).slots) := by
  refine MetFree.of_bodySF (plainFor_of_name pn_rm2) hisR ?_
  intro p e s m args below meth c s₁ Bd hml0 hP hK
  obtain ⟨rfl, hZ, hh⟩ := hP
  have hx := Bd.exec
  have hby := Bd.bytes
  have hml : c.maxLocals = 1 := hml0
  have hown : s.vm.findClass "com/example/bouncer/bouncer/http/FieldsIsTokenCharacterPinLaw" = some m.cls := findClass_of_methodNamed Bd.named
  have hnm := (name_of_methodNamed Bd.named Bd.method).1
  have X0 : Stand p l e ({ frames := 0, cells := 0, slots := 0, locals := 0 } : Room) s m #[(.int p1)] below meth c s₁ [] 0 0 := Stand.of_body Bd
  have e0 : s₁.heap = h0 := by rw [← hh, Bd.state]; rfl
  have N0 := Fr.nil n0
  have pre0 : ∀ t, Steps p.tables e below (s₁.setTop (mkF m 0 #[.val (.int p1)] [])) t → Steps p.tables e below (s₁.setTop (entryFrame m #[(.int p1)] 1)) t := fun t k => castTop (ef_rm2 m p1) k
  by_cases hc1 : ¬ p1 < (97 : Int32) ∧ ¬ (122 : Int32) < p1
  · obtain ⟨fs, hr, hrun, hended, hW, hsame⟩ := X0.leave (v := some (.int (1 : Int32))) (fun h => by rw [Bd.returns] at h; cases h)
    refine ⟨_, _, pre0 _ ?_, hrun, hended, _, _, rfl, ?_, ⟨_, rfl⟩, hW, hsame.mono (by decide) (by decide)⟩
    · show Steps p.tables e below (s₁.setTop (mkF m 0 #[.val (.int p1)] [])) _
      refine XS.iloadN X0.here hx rfl (hb hby d2_0) rfl ?_
      show Steps p.tables e below (s₁.setTop (mkF m 1 #[.val (.int p1)] [(.int p1)])) _
      refine XS.bipush X0.here hx rfl (hb hby d2_1) ?_
      show Steps p.tables e below (s₁.setTop (mkF m 3 #[.val (.int p1)] [(.int (97 : Int32)), (.int p1)])) _
      refine XS.icmpNo X0.here hx rfl (hb hby d2_3) rfl (flt hc1.1).1 ?_
      show Steps p.tables e below (s₁.setTop (mkF m 6 #[.val (.int p1)] [])) _
      refine XS.iloadN X0.here hx rfl (hb hby d2_6) rfl ?_
      show Steps p.tables e below (s₁.setTop (mkF m 7 #[.val (.int p1)] [(.int p1)])) _
      refine XS.bipush X0.here hx rfl (hb hby d2_7) ?_
      show Steps p.tables e below (s₁.setTop (mkF m 9 #[.val (.int p1)] [(.int (122 : Int32)), (.int p1)])) _
      refine XS.icmpNo X0.here hx rfl (hb hby d2_9) rfl (flt hc1.2).2.2.1 ?_
      show Steps p.tables e below (s₁.setTop (mkF m 12 #[.val (.int p1)] [])) _
      refine XS.iconst X0.here hx rfl (hb hby d2_12) ?_
      show Steps p.tables e below (s₁.setTop (mkF m 13 #[.val (.int p1)] [(.int (1 : Int32))])) _
      exact retN X0 hx (t := .boolean) Bd.returns (by simp) (hb hby d2_13) hr
    · show Q_rm2 Z p1 r h0 n0 _ s₁.heap _
      rw [e0]
      exact ⟨by rw [← hret]; simp only [tcharW, if_pos hc1], N0, rfl⟩
  · have pre2 : ∀ t, Steps p.tables e below (s₁.setTop (mkF m 3 #[.val (.int p1)] [(.int (97 : Int32)), (.int p1)])) t → Steps p.tables e below (s₁.setTop (entryFrame m #[(.int p1)] 1)) t := fun t k => pre0 t (by
        show Steps p.tables e below (s₁.setTop (mkF m 0 #[.val (.int p1)] [])) _
        refine XS.iloadN X0.here hx rfl (hb hby d2_0) rfl ?_
        show Steps p.tables e below (s₁.setTop (mkF m 1 #[.val (.int p1)] [(.int p1)])) _
        refine XS.bipush X0.here hx rfl (hb hby d2_1) ?_
        exact k)
    have pre5 : ∀ t, Steps p.tables e below (s₁.setTop (mkF m 14 #[.val (.int p1)] [])) t → Steps p.tables e below (s₁.setTop (entryFrame m #[(.int p1)] 1)) t := fun t k => pre2 t (by
        by_cases hc3 : p1 < (97 : Int32)
        · show Steps p.tables e below (s₁.setTop (mkF m 3 #[.val (.int p1)] [(.int (97 : Int32)), (.int p1)])) _
          refine XS.icmpYes X0.here hx rfl (pc0 := 3) (pc' := 14) rfl (hb hby d2_3) rfl (tlt hc3).1 (by decide) (by decide) ?_
          exact k
        · show Steps p.tables e below (s₁.setTop (mkF m 3 #[.val (.int p1)] [(.int (97 : Int32)), (.int p1)])) _
          refine XS.icmpNo X0.here hx rfl (hb hby d2_3) rfl (flt hc3).1 ?_
          show Steps p.tables e below (s₁.setTop (mkF m 6 #[.val (.int p1)] [])) _
          refine XS.iloadN X0.here hx rfl (hb hby d2_6) rfl ?_
          show Steps p.tables e below (s₁.setTop (mkF m 7 #[.val (.int p1)] [(.int p1)])) _
          refine XS.bipush X0.here hx rfl (hb hby d2_7) ?_
          by_cases hc4 : (122 : Int32) < p1
          · show Steps p.tables e below (s₁.setTop (mkF m 9 #[.val (.int p1)] [(.int (122 : Int32)), (.int p1)])) _
            refine XS.icmpYes X0.here hx rfl (pc0 := 9) (pc' := 14) rfl (hb hby d2_9) rfl (tlt hc4).2.2.1 (by decide) (by decide) ?_
            exact k
          · exact absurd ⟨hc3, hc4⟩ hc1)
    by_cases hc6 : ¬ p1 < (65 : Int32) ∧ ¬ (90 : Int32) < p1
    · obtain ⟨fs, hr, hrun, hended, hW, hsame⟩ := X0.leave (v := some (.int (1 : Int32))) (fun h => by rw [Bd.returns] at h; cases h)
      refine ⟨_, _, pre5 _ ?_, hrun, hended, _, _, rfl, ?_, ⟨_, rfl⟩, hW, hsame.mono (by decide) (by decide)⟩
      · show Steps p.tables e below (s₁.setTop (mkF m 14 #[.val (.int p1)] [])) _
        refine XS.iloadN X0.here hx rfl (hb hby d2_14) rfl ?_
        show Steps p.tables e below (s₁.setTop (mkF m 15 #[.val (.int p1)] [(.int p1)])) _
        refine XS.bipush X0.here hx rfl (hb hby d2_15) ?_
        show Steps p.tables e below (s₁.setTop (mkF m 17 #[.val (.int p1)] [(.int (65 : Int32)), (.int p1)])) _
        refine XS.icmpNo X0.here hx rfl (hb hby d2_17) rfl (flt hc6.1).1 ?_
        show Steps p.tables e below (s₁.setTop (mkF m 20 #[.val (.int p1)] [])) _
        refine XS.iloadN X0.here hx rfl (hb hby d2_20) rfl ?_
        show Steps p.tables e below (s₁.setTop (mkF m 21 #[.val (.int p1)] [(.int p1)])) _
        refine XS.bipush X0.here hx rfl (hb hby d2_21) ?_
        show Steps p.tables e below (s₁.setTop (mkF m 23 #[.val (.int p1)] [(.int (90 : Int32)), (.int p1)])) _
        refine XS.icmpNo X0.here hx rfl (hb hby d2_23) rfl (flt hc6.2).2.2.1 ?_
        show Steps p.tables e below (s₁.setTop (mkF m 26 #[.val (.int p1)] [])) _
        refine XS.iconst X0.here hx rfl (hb hby d2_26) ?_
        show Steps p.tables e below (s₁.setTop (mkF m 27 #[.val (.int p1)] [(.int (1 : Int32))])) _
        exact retN X0 hx (t := .boolean) Bd.returns (by simp) (hb hby d2_27) hr
      · show Q_rm2 Z p1 r h0 n0 _ s₁.heap _
        rw [e0]
        exact ⟨by rw [← hret]; simp only [tcharW, if_neg hc1, if_pos hc6], N0, rfl⟩
    · have pre7 : ∀ t, Steps p.tables e below (s₁.setTop (mkF m 17 #[.val (.int p1)] [(.int (65 : Int32)), (.int p1)])) t → Steps p.tables e below (s₁.setTop (entryFrame m #[(.int p1)] 1)) t := fun t k => pre5 t (by
          show Steps p.tables e below (s₁.setTop (mkF m 14 #[.val (.int p1)] [])) _
          refine XS.iloadN X0.here hx rfl (hb hby d2_14) rfl ?_
          show Steps p.tables e below (s₁.setTop (mkF m 15 #[.val (.int p1)] [(.int p1)])) _
          refine XS.bipush X0.here hx rfl (hb hby d2_15) ?_
          exact k)
      have pre10 : ∀ t, Steps p.tables e below (s₁.setTop (mkF m 28 #[.val (.int p1)] [])) t → Steps p.tables e below (s₁.setTop (entryFrame m #[(.int p1)] 1)) t := fun t k => pre7 t (by
          by_cases hc8 : p1 < (65 : Int32)
          · show Steps p.tables e below (s₁.setTop (mkF m 17 #[.val (.int p1)] [(.int (65 : Int32)), (.int p1)])) _
            refine XS.icmpYes X0.here hx rfl (pc0 := 17) (pc' := 28) rfl (hb hby d2_17) rfl (tlt hc8).1 (by decide) (by decide) ?_
            exact k
          · show Steps p.tables e below (s₁.setTop (mkF m 17 #[.val (.int p1)] [(.int (65 : Int32)), (.int p1)])) _
            refine XS.icmpNo X0.here hx rfl (hb hby d2_17) rfl (flt hc8).1 ?_
            show Steps p.tables e below (s₁.setTop (mkF m 20 #[.val (.int p1)] [])) _
            refine XS.iloadN X0.here hx rfl (hb hby d2_20) rfl ?_
            show Steps p.tables e below (s₁.setTop (mkF m 21 #[.val (.int p1)] [(.int p1)])) _
            refine XS.bipush X0.here hx rfl (hb hby d2_21) ?_
            by_cases hc9 : (90 : Int32) < p1
            · show Steps p.tables e below (s₁.setTop (mkF m 23 #[.val (.int p1)] [(.int (90 : Int32)), (.int p1)])) _
              refine XS.icmpYes X0.here hx rfl (pc0 := 23) (pc' := 28) rfl (hb hby d2_23) rfl (tlt hc9).2.2.1 (by decide) (by decide) ?_
              exact k
            · exact absurd ⟨hc8, hc9⟩ hc6)
      by_cases hc11 : ¬ p1 < (48 : Int32) ∧ ¬ (57 : Int32) < p1
      · obtain ⟨fs, hr, hrun, hended, hW, hsame⟩ := X0.leave (v := some (.int (1 : Int32))) (fun h => by rw [Bd.returns] at h; cases h)
        refine ⟨_, _, pre10 _ ?_, hrun, hended, _, _, rfl, ?_, ⟨_, rfl⟩, hW, hsame.mono (by decide) (by decide)⟩
        · show Steps p.tables e below (s₁.setTop (mkF m 28 #[.val (.int p1)] [])) _
          refine XS.iloadN X0.here hx rfl (hb hby d2_28) rfl ?_
          show Steps p.tables e below (s₁.setTop (mkF m 29 #[.val (.int p1)] [(.int p1)])) _
          refine XS.bipush X0.here hx rfl (hb hby d2_29) ?_
          show Steps p.tables e below (s₁.setTop (mkF m 31 #[.val (.int p1)] [(.int (48 : Int32)), (.int p1)])) _
          refine XS.icmpNo X0.here hx rfl (hb hby d2_31) rfl (flt hc11.1).1 ?_
          show Steps p.tables e below (s₁.setTop (mkF m 34 #[.val (.int p1)] [])) _
          refine XS.iloadN X0.here hx rfl (hb hby d2_34) rfl ?_
          show Steps p.tables e below (s₁.setTop (mkF m 35 #[.val (.int p1)] [(.int p1)])) _
          refine XS.bipush X0.here hx rfl (hb hby d2_35) ?_
          show Steps p.tables e below (s₁.setTop (mkF m 37 #[.val (.int p1)] [(.int (57 : Int32)), (.int p1)])) _
          refine XS.icmpNo X0.here hx rfl (hb hby d2_37) rfl (flt hc11.2).2.2.1 ?_
          show Steps p.tables e below (s₁.setTop (mkF m 40 #[.val (.int p1)] [])) _
          refine XS.iconst X0.here hx rfl (hb hby d2_40) ?_
          show Steps p.tables e below (s₁.setTop (mkF m 41 #[.val (.int p1)] [(.int (1 : Int32))])) _
          exact retN X0 hx (t := .boolean) Bd.returns (by simp) (hb hby d2_41) hr
        · show Q_rm2 Z p1 r h0 n0 _ s₁.heap _
          rw [e0]
          exact ⟨by rw [← hret]; simp only [tcharW, if_neg hc1, if_neg hc6, if_pos hc11], N0, rfl⟩
      · have pre12 : ∀ t, Steps p.tables e below (s₁.setTop (mkF m 31 #[.val (.int p1)] [(.int (48 : Int32)), (.int p1)])) t → Steps p.tables e below (s₁.setTop (entryFrame m #[(.int p1)] 1)) t := fun t k => pre10 t (by
            show Steps p.tables e below (s₁.setTop (mkF m 28 #[.val (.int p1)] [])) _
            refine XS.iloadN X0.here hx rfl (hb hby d2_28) rfl ?_
            show Steps p.tables e below (s₁.setTop (mkF m 29 #[.val (.int p1)] [(.int p1)])) _
            refine XS.bipush X0.here hx rfl (hb hby d2_29) ?_
            exact k)
        have pre15 : ∀ t, Steps p.tables e below (s₁.setTop (mkF m 42 #[.val (.int p1)] [])) t → Steps p.tables e below (s₁.setTop (entryFrame m #[(.int p1)] 1)) t := fun t k => pre12 t (by
            by_cases hc13 : p1 < (48 : Int32)
            · show Steps p.tables e below (s₁.setTop (mkF m 31 #[.val (.int p1)] [(.int (48 : Int32)), (.int p1)])) _
              refine XS.icmpYes X0.here hx rfl (pc0 := 31) (pc' := 42) rfl (hb hby d2_31) rfl (tlt hc13).1 (by decide) (by decide) ?_
              exact k
            · show Steps p.tables e below (s₁.setTop (mkF m 31 #[.val (.int p1)] [(.int (48 : Int32)), (.int p1)])) _
              refine XS.icmpNo X0.here hx rfl (hb hby d2_31) rfl (flt hc13).1 ?_
              show Steps p.tables e below (s₁.setTop (mkF m 34 #[.val (.int p1)] [])) _
              refine XS.iloadN X0.here hx rfl (hb hby d2_34) rfl ?_
              show Steps p.tables e below (s₁.setTop (mkF m 35 #[.val (.int p1)] [(.int p1)])) _
              refine XS.bipush X0.here hx rfl (hb hby d2_35) ?_
              by_cases hc14 : (57 : Int32) < p1
              · show Steps p.tables e below (s₁.setTop (mkF m 37 #[.val (.int p1)] [(.int (57 : Int32)), (.int p1)])) _
                refine XS.icmpYes X0.here hx rfl (pc0 := 37) (pc' := 42) rfl (hb hby d2_37) rfl (tlt hc14).2.2.1 (by decide) (by decide) ?_
                exact k
              · exact absurd ⟨hc13, hc14⟩ hc11)
        by_cases hc16 : p1 = (33 : Int32) ∨ p1 = (35 : Int32) ∨ p1 = (36 : Int32) ∨ p1 = (37 : Int32) ∨ p1 = (38 : Int32) ∨ p1 = (39 : Int32) ∨ p1 = (42 : Int32) ∨ p1 = (43 : Int32) ∨ p1 = (45 : Int32) ∨ p1 = (46 : Int32) ∨ p1 = (94 : Int32) ∨ p1 = (95 : Int32) ∨ p1 = (96 : Int32) ∨ p1 = (124 : Int32) ∨ p1 = (126 : Int32)
        · have pre17 : ∀ t, Steps p.tables e below (s₁.setTop (mkF m 45 #[.val (.int p1)] [(.int (33 : Int32)), (.int p1)])) t → Steps p.tables e below (s₁.setTop (entryFrame m #[(.int p1)] 1)) t := fun t k => pre15 t (by
              show Steps p.tables e below (s₁.setTop (mkF m 42 #[.val (.int p1)] [])) _
              refine XS.iloadN X0.here hx rfl (hb hby d2_42) rfl ?_
              show Steps p.tables e below (s₁.setTop (mkF m 43 #[.val (.int p1)] [(.int p1)])) _
              refine XS.bipush X0.here hx rfl (hb hby d2_43) ?_
              exact k)
          have pre33 : ∀ t, Steps p.tables e below (s₁.setTop (mkF m 132 #[.val (.int p1)] [])) t → Steps p.tables e below (s₁.setTop (entryFrame m #[(.int p1)] 1)) t := fun t k => pre17 t (by
              by_cases hc18 : p1 = (33 : Int32)
              · show Steps p.tables e below (s₁.setTop (mkF m 45 #[.val (.int p1)] [(.int (33 : Int32)), (.int p1)])) _
                refine XS.icmpYes X0.here hx rfl (pc0 := 45) (pc' := 132) rfl (hb hby d2_45) rfl (teq hc18).1 (by decide) (by decide) ?_
                exact k
              · show Steps p.tables e below (s₁.setTop (mkF m 45 #[.val (.int p1)] [(.int (33 : Int32)), (.int p1)])) _
                refine XS.icmpNo X0.here hx rfl (hb hby d2_45) rfl (feq hc18).1 ?_
                show Steps p.tables e below (s₁.setTop (mkF m 48 #[.val (.int p1)] [])) _
                refine XS.iloadN X0.here hx rfl (hb hby d2_48) rfl ?_
                show Steps p.tables e below (s₁.setTop (mkF m 49 #[.val (.int p1)] [(.int p1)])) _
                refine XS.bipush X0.here hx rfl (hb hby d2_49) ?_
                by_cases hc19 : p1 = (35 : Int32)
                · show Steps p.tables e below (s₁.setTop (mkF m 51 #[.val (.int p1)] [(.int (35 : Int32)), (.int p1)])) _
                  refine XS.icmpYes X0.here hx rfl (pc0 := 51) (pc' := 132) rfl (hb hby d2_51) rfl (teq hc19).1 (by decide) (by decide) ?_
                  exact k
                · show Steps p.tables e below (s₁.setTop (mkF m 51 #[.val (.int p1)] [(.int (35 : Int32)), (.int p1)])) _
                  refine XS.icmpNo X0.here hx rfl (hb hby d2_51) rfl (feq hc19).1 ?_
                  show Steps p.tables e below (s₁.setTop (mkF m 54 #[.val (.int p1)] [])) _
                  refine XS.iloadN X0.here hx rfl (hb hby d2_54) rfl ?_
                  show Steps p.tables e below (s₁.setTop (mkF m 55 #[.val (.int p1)] [(.int p1)])) _
                  refine XS.bipush X0.here hx rfl (hb hby d2_55) ?_
                  by_cases hc20 : p1 = (36 : Int32)
                  · show Steps p.tables e below (s₁.setTop (mkF m 57 #[.val (.int p1)] [(.int (36 : Int32)), (.int p1)])) _
                    refine XS.icmpYes X0.here hx rfl (pc0 := 57) (pc' := 132) rfl (hb hby d2_57) rfl (teq hc20).1 (by decide) (by decide) ?_
                    exact k
                  · show Steps p.tables e below (s₁.setTop (mkF m 57 #[.val (.int p1)] [(.int (36 : Int32)), (.int p1)])) _
                    refine XS.icmpNo X0.here hx rfl (hb hby d2_57) rfl (feq hc20).1 ?_
                    show Steps p.tables e below (s₁.setTop (mkF m 60 #[.val (.int p1)] [])) _
                    refine XS.iloadN X0.here hx rfl (hb hby d2_60) rfl ?_
                    show Steps p.tables e below (s₁.setTop (mkF m 61 #[.val (.int p1)] [(.int p1)])) _
                    refine XS.bipush X0.here hx rfl (hb hby d2_61) ?_
                    by_cases hc21 : p1 = (37 : Int32)
                    · show Steps p.tables e below (s₁.setTop (mkF m 63 #[.val (.int p1)] [(.int (37 : Int32)), (.int p1)])) _
                      refine XS.icmpYes X0.here hx rfl (pc0 := 63) (pc' := 132) rfl (hb hby d2_63) rfl (teq hc21).1 (by decide) (by decide) ?_
                      exact k
                    · show Steps p.tables e below (s₁.setTop (mkF m 63 #[.val (.int p1)] [(.int (37 : Int32)), (.int p1)])) _
                      refine XS.icmpNo X0.here hx rfl (hb hby d2_63) rfl (feq hc21).1 ?_
                      show Steps p.tables e below (s₁.setTop (mkF m 66 #[.val (.int p1)] [])) _
                      refine XS.iloadN X0.here hx rfl (hb hby d2_66) rfl ?_
                      show Steps p.tables e below (s₁.setTop (mkF m 67 #[.val (.int p1)] [(.int p1)])) _
                      refine XS.bipush X0.here hx rfl (hb hby d2_67) ?_
                      by_cases hc22 : p1 = (38 : Int32)
                      · show Steps p.tables e below (s₁.setTop (mkF m 69 #[.val (.int p1)] [(.int (38 : Int32)), (.int p1)])) _
                        refine XS.icmpYes X0.here hx rfl (pc0 := 69) (pc' := 132) rfl (hb hby d2_69) rfl (teq hc22).1 (by decide) (by decide) ?_
                        exact k
                      · show Steps p.tables e below (s₁.setTop (mkF m 69 #[.val (.int p1)] [(.int (38 : Int32)), (.int p1)])) _
                        refine XS.icmpNo X0.here hx rfl (hb hby d2_69) rfl (feq hc22).1 ?_
                        show Steps p.tables e below (s₁.setTop (mkF m 72 #[.val (.int p1)] [])) _
                        refine XS.iloadN X0.here hx rfl (hb hby d2_72) rfl ?_
                        show Steps p.tables e below (s₁.setTop (mkF m 73 #[.val (.int p1)] [(.int p1)])) _
                        refine XS.bipush X0.here hx rfl (hb hby d2_73) ?_
                        by_cases hc23 : p1 = (39 : Int32)
                        · show Steps p.tables e below (s₁.setTop (mkF m 75 #[.val (.int p1)] [(.int (39 : Int32)), (.int p1)])) _
                          refine XS.icmpYes X0.here hx rfl (pc0 := 75) (pc' := 132) rfl (hb hby d2_75) rfl (teq hc23).1 (by decide) (by decide) ?_
                          exact k
                        · show Steps p.tables e below (s₁.setTop (mkF m 75 #[.val (.int p1)] [(.int (39 : Int32)), (.int p1)])) _
                          refine XS.icmpNo X0.here hx rfl (hb hby d2_75) rfl (feq hc23).1 ?_
                          show Steps p.tables e below (s₁.setTop (mkF m 78 #[.val (.int p1)] [])) _
                          refine XS.iloadN X0.here hx rfl (hb hby d2_78) rfl ?_
                          show Steps p.tables e below (s₁.setTop (mkF m 79 #[.val (.int p1)] [(.int p1)])) _
                          refine XS.bipush X0.here hx rfl (hb hby d2_79) ?_
                          by_cases hc24 : p1 = (42 : Int32)
                          · show Steps p.tables e below (s₁.setTop (mkF m 81 #[.val (.int p1)] [(.int (42 : Int32)), (.int p1)])) _
                            refine XS.icmpYes X0.here hx rfl (pc0 := 81) (pc' := 132) rfl (hb hby d2_81) rfl (teq hc24).1 (by decide) (by decide) ?_
                            exact k
                          · show Steps p.tables e below (s₁.setTop (mkF m 81 #[.val (.int p1)] [(.int (42 : Int32)), (.int p1)])) _
                            refine XS.icmpNo X0.here hx rfl (hb hby d2_81) rfl (feq hc24).1 ?_
                            show Steps p.tables e below (s₁.setTop (mkF m 84 #[.val (.int p1)] [])) _
                            refine XS.iloadN X0.here hx rfl (hb hby d2_84) rfl ?_
                            show Steps p.tables e below (s₁.setTop (mkF m 85 #[.val (.int p1)] [(.int p1)])) _
                            refine XS.bipush X0.here hx rfl (hb hby d2_85) ?_
                            by_cases hc25 : p1 = (43 : Int32)
                            · show Steps p.tables e below (s₁.setTop (mkF m 87 #[.val (.int p1)] [(.int (43 : Int32)), (.int p1)])) _
                              refine XS.icmpYes X0.here hx rfl (pc0 := 87) (pc' := 132) rfl (hb hby d2_87) rfl (teq hc25).1 (by decide) (by decide) ?_
                              exact k
                            · show Steps p.tables e below (s₁.setTop (mkF m 87 #[.val (.int p1)] [(.int (43 : Int32)), (.int p1)])) _
                              refine XS.icmpNo X0.here hx rfl (hb hby d2_87) rfl (feq hc25).1 ?_
                              show Steps p.tables e below (s₁.setTop (mkF m 90 #[.val (.int p1)] [])) _
                              refine XS.iloadN X0.here hx rfl (hb hby d2_90) rfl ?_
                              show Steps p.tables e below (s₁.setTop (mkF m 91 #[.val (.int p1)] [(.int p1)])) _
                              refine XS.bipush X0.here hx rfl (hb hby d2_91) ?_
                              by_cases hc26 : p1 = (45 : Int32)
                              · show Steps p.tables e below (s₁.setTop (mkF m 93 #[.val (.int p1)] [(.int (45 : Int32)), (.int p1)])) _
                                refine XS.icmpYes X0.here hx rfl (pc0 := 93) (pc' := 132) rfl (hb hby d2_93) rfl (teq hc26).1 (by decide) (by decide) ?_
                                exact k
                              · show Steps p.tables e below (s₁.setTop (mkF m 93 #[.val (.int p1)] [(.int (45 : Int32)), (.int p1)])) _
                                refine XS.icmpNo X0.here hx rfl (hb hby d2_93) rfl (feq hc26).1 ?_
                                show Steps p.tables e below (s₁.setTop (mkF m 96 #[.val (.int p1)] [])) _
                                refine XS.iloadN X0.here hx rfl (hb hby d2_96) rfl ?_
                                show Steps p.tables e below (s₁.setTop (mkF m 97 #[.val (.int p1)] [(.int p1)])) _
                                refine XS.bipush X0.here hx rfl (hb hby d2_97) ?_
                                by_cases hc27 : p1 = (46 : Int32)
                                · show Steps p.tables e below (s₁.setTop (mkF m 99 #[.val (.int p1)] [(.int (46 : Int32)), (.int p1)])) _
                                  refine XS.icmpYes X0.here hx rfl (pc0 := 99) (pc' := 132) rfl (hb hby d2_99) rfl (teq hc27).1 (by decide) (by decide) ?_
                                  exact k
                                · show Steps p.tables e below (s₁.setTop (mkF m 99 #[.val (.int p1)] [(.int (46 : Int32)), (.int p1)])) _
                                  refine XS.icmpNo X0.here hx rfl (hb hby d2_99) rfl (feq hc27).1 ?_
                                  show Steps p.tables e below (s₁.setTop (mkF m 102 #[.val (.int p1)] [])) _
                                  refine XS.iloadN X0.here hx rfl (hb hby d2_102) rfl ?_
                                  show Steps p.tables e below (s₁.setTop (mkF m 103 #[.val (.int p1)] [(.int p1)])) _
                                  refine XS.bipush X0.here hx rfl (hb hby d2_103) ?_
                                  by_cases hc28 : p1 = (94 : Int32)
                                  · show Steps p.tables e below (s₁.setTop (mkF m 105 #[.val (.int p1)] [(.int (94 : Int32)), (.int p1)])) _
                                    refine XS.icmpYes X0.here hx rfl (pc0 := 105) (pc' := 132) rfl (hb hby d2_105) rfl (teq hc28).1 (by decide) (by decide) ?_
                                    exact k
                                  · show Steps p.tables e below (s₁.setTop (mkF m 105 #[.val (.int p1)] [(.int (94 : Int32)), (.int p1)])) _
                                    refine XS.icmpNo X0.here hx rfl (hb hby d2_105) rfl (feq hc28).1 ?_
                                    show Steps p.tables e below (s₁.setTop (mkF m 108 #[.val (.int p1)] [])) _
                                    refine XS.iloadN X0.here hx rfl (hb hby d2_108) rfl ?_
                                    show Steps p.tables e below (s₁.setTop (mkF m 109 #[.val (.int p1)] [(.int p1)])) _
                                    refine XS.bipush X0.here hx rfl (hb hby d2_109) ?_
                                    by_cases hc29 : p1 = (95 : Int32)
                                    · show Steps p.tables e below (s₁.setTop (mkF m 111 #[.val (.int p1)] [(.int (95 : Int32)), (.int p1)])) _
                                      refine XS.icmpYes X0.here hx rfl (pc0 := 111) (pc' := 132) rfl (hb hby d2_111) rfl (teq hc29).1 (by decide) (by decide) ?_
                                      exact k
                                    · show Steps p.tables e below (s₁.setTop (mkF m 111 #[.val (.int p1)] [(.int (95 : Int32)), (.int p1)])) _
                                      refine XS.icmpNo X0.here hx rfl (hb hby d2_111) rfl (feq hc29).1 ?_
                                      show Steps p.tables e below (s₁.setTop (mkF m 114 #[.val (.int p1)] [])) _
                                      refine XS.iloadN X0.here hx rfl (hb hby d2_114) rfl ?_
                                      show Steps p.tables e below (s₁.setTop (mkF m 115 #[.val (.int p1)] [(.int p1)])) _
                                      refine XS.bipush X0.here hx rfl (hb hby d2_115) ?_
                                      by_cases hc30 : p1 = (96 : Int32)
                                      · show Steps p.tables e below (s₁.setTop (mkF m 117 #[.val (.int p1)] [(.int (96 : Int32)), (.int p1)])) _
                                        refine XS.icmpYes X0.here hx rfl (pc0 := 117) (pc' := 132) rfl (hb hby d2_117) rfl (teq hc30).1 (by decide) (by decide) ?_
                                        exact k
                                      · show Steps p.tables e below (s₁.setTop (mkF m 117 #[.val (.int p1)] [(.int (96 : Int32)), (.int p1)])) _
                                        refine XS.icmpNo X0.here hx rfl (hb hby d2_117) rfl (feq hc30).1 ?_
                                        show Steps p.tables e below (s₁.setTop (mkF m 120 #[.val (.int p1)] [])) _
                                        refine XS.iloadN X0.here hx rfl (hb hby d2_120) rfl ?_
                                        show Steps p.tables e below (s₁.setTop (mkF m 121 #[.val (.int p1)] [(.int p1)])) _
                                        refine XS.bipush X0.here hx rfl (hb hby d2_121) ?_
                                        by_cases hc31 : p1 = (124 : Int32)
                                        · show Steps p.tables e below (s₁.setTop (mkF m 123 #[.val (.int p1)] [(.int (124 : Int32)), (.int p1)])) _
                                          refine XS.icmpYes X0.here hx rfl (pc0 := 123) (pc' := 132) rfl (hb hby d2_123) rfl (teq hc31).1 (by decide) (by decide) ?_
                                          exact k
                                        · show Steps p.tables e below (s₁.setTop (mkF m 123 #[.val (.int p1)] [(.int (124 : Int32)), (.int p1)])) _
                                          refine XS.icmpNo X0.here hx rfl (hb hby d2_123) rfl (feq hc31).1 ?_
                                          show Steps p.tables e below (s₁.setTop (mkF m 126 #[.val (.int p1)] [])) _
                                          refine XS.iloadN X0.here hx rfl (hb hby d2_126) rfl ?_
                                          show Steps p.tables e below (s₁.setTop (mkF m 127 #[.val (.int p1)] [(.int p1)])) _
                                          refine XS.bipush X0.here hx rfl (hb hby d2_127) ?_
                                          by_cases hc32 : p1 = (126 : Int32)
                                          · show Steps p.tables e below (s₁.setTop (mkF m 129 #[.val (.int p1)] [(.int (126 : Int32)), (.int p1)])) _
                                            refine XS.icmpNo X0.here hx rfl (hb hby d2_129) rfl (teq hc32).2 ?_
                                            exact k
                                          · exact absurd hc16 (not_or.mpr ⟨hc18, (not_or.mpr ⟨hc19, (not_or.mpr ⟨hc20, (not_or.mpr ⟨hc21, (not_or.mpr ⟨hc22, (not_or.mpr ⟨hc23, (not_or.mpr ⟨hc24, (not_or.mpr ⟨hc25, (not_or.mpr ⟨hc26, (not_or.mpr ⟨hc27, (not_or.mpr ⟨hc28, (not_or.mpr ⟨hc29, (not_or.mpr ⟨hc30, (not_or.mpr ⟨hc31, hc32⟩)⟩)⟩)⟩)⟩)⟩)⟩)⟩)⟩)⟩)⟩)⟩)⟩)⟩))
          obtain ⟨fs, hr, hrun, hended, hW, hsame⟩ := X0.leave (v := some (.int (1 : Int32))) (fun h => by rw [Bd.returns] at h; cases h)
          refine ⟨_, _, pre33 _ ?_, hrun, hended, _, _, rfl, ?_, ⟨_, rfl⟩, hW, hsame.mono (by decide) (by decide)⟩
          · show Steps p.tables e below (s₁.setTop (mkF m 132 #[.val (.int p1)] [])) _
            refine XS.iconst X0.here hx rfl (hb hby d2_132) ?_
            show Steps p.tables e below (s₁.setTop (mkF m 133 #[.val (.int p1)] [(.int (1 : Int32))])) _
            refine XS.goto X0.here hx rfl (pc0 := 133) (pc' := 137) rfl (hb hby d2_133) (by decide) (by decide) ?_
            show Steps p.tables e below (s₁.setTop (mkF m 137 #[.val (.int p1)] [(.int (1 : Int32))])) _
            exact retN X0 hx (t := .boolean) Bd.returns (by simp) (hb hby d2_137) hr
          · show Q_rm2 Z p1 r h0 n0 _ s₁.heap _
            rw [e0]
            exact ⟨by rw [← hret]; simp only [tcharW, if_neg hc1, if_neg hc6, if_neg hc11, if_pos hc16], N0, rfl⟩
        · obtain ⟨fs, hr, hrun, hended, hW, hsame⟩ := X0.leave (v := some (.int (0 : Int32))) (fun h => by rw [Bd.returns] at h; cases h)
          refine ⟨_, _, pre15 _ ?_, hrun, hended, _, _, rfl, ?_, ⟨_, rfl⟩, hW, hsame.mono (by decide) (by decide)⟩
          · show Steps p.tables e below (s₁.setTop (mkF m 42 #[.val (.int p1)] [])) _
            refine XS.iloadN X0.here hx rfl (hb hby d2_42) rfl ?_
            show Steps p.tables e below (s₁.setTop (mkF m 43 #[.val (.int p1)] [(.int p1)])) _
            refine XS.bipush X0.here hx rfl (hb hby d2_43) ?_
            show Steps p.tables e below (s₁.setTop (mkF m 45 #[.val (.int p1)] [(.int (33 : Int32)), (.int p1)])) _
            refine XS.icmpNo X0.here hx rfl (hb hby d2_45) rfl (feq (not_or.mp hc16).1).1 ?_
            show Steps p.tables e below (s₁.setTop (mkF m 48 #[.val (.int p1)] [])) _
            refine XS.iloadN X0.here hx rfl (hb hby d2_48) rfl ?_
            show Steps p.tables e below (s₁.setTop (mkF m 49 #[.val (.int p1)] [(.int p1)])) _
            refine XS.bipush X0.here hx rfl (hb hby d2_49) ?_
            show Steps p.tables e below (s₁.setTop (mkF m 51 #[.val (.int p1)] [(.int (35 : Int32)), (.int p1)])) _
            refine XS.icmpNo X0.here hx rfl (hb hby d2_51) rfl (feq (not_or.mp (not_or.mp hc16).2).1).1 ?_
            show Steps p.tables e below (s₁.setTop (mkF m 54 #[.val (.int p1)] [])) _
            refine XS.iloadN X0.here hx rfl (hb hby d2_54) rfl ?_
            show Steps p.tables e below (s₁.setTop (mkF m 55 #[.val (.int p1)] [(.int p1)])) _
            refine XS.bipush X0.here hx rfl (hb hby d2_55) ?_
            show Steps p.tables e below (s₁.setTop (mkF m 57 #[.val (.int p1)] [(.int (36 : Int32)), (.int p1)])) _
            refine XS.icmpNo X0.here hx rfl (hb hby d2_57) rfl (feq (not_or.mp (not_or.mp (not_or.mp hc16).2).2).1).1 ?_
            show Steps p.tables e below (s₁.setTop (mkF m 60 #[.val (.int p1)] [])) _
            refine XS.iloadN X0.here hx rfl (hb hby d2_60) rfl ?_
            show Steps p.tables e below (s₁.setTop (mkF m 61 #[.val (.int p1)] [(.int p1)])) _
            refine XS.bipush X0.here hx rfl (hb hby d2_61) ?_
            show Steps p.tables e below (s₁.setTop (mkF m 63 #[.val (.int p1)] [(.int (37 : Int32)), (.int p1)])) _
            refine XS.icmpNo X0.here hx rfl (hb hby d2_63) rfl (feq (not_or.mp (not_or.mp (not_or.mp (not_or.mp hc16).2).2).2).1).1 ?_
            show Steps p.tables e below (s₁.setTop (mkF m 66 #[.val (.int p1)] [])) _
            refine XS.iloadN X0.here hx rfl (hb hby d2_66) rfl ?_
            show Steps p.tables e below (s₁.setTop (mkF m 67 #[.val (.int p1)] [(.int p1)])) _
            refine XS.bipush X0.here hx rfl (hb hby d2_67) ?_
            show Steps p.tables e below (s₁.setTop (mkF m 69 #[.val (.int p1)] [(.int (38 : Int32)), (.int p1)])) _
            refine XS.icmpNo X0.here hx rfl (hb hby d2_69) rfl (feq (not_or.mp (not_or.mp (not_or.mp (not_or.mp (not_or.mp hc16).2).2).2).2).1).1 ?_
            show Steps p.tables e below (s₁.setTop (mkF m 72 #[.val (.int p1)] [])) _
            refine XS.iloadN X0.here hx rfl (hb hby d2_72) rfl ?_
            show Steps p.tables e below (s₁.setTop (mkF m 73 #[.val (.int p1)] [(.int p1)])) _
            refine XS.bipush X0.here hx rfl (hb hby d2_73) ?_
            show Steps p.tables e below (s₁.setTop (mkF m 75 #[.val (.int p1)] [(.int (39 : Int32)), (.int p1)])) _
            refine XS.icmpNo X0.here hx rfl (hb hby d2_75) rfl (feq (not_or.mp (not_or.mp (not_or.mp (not_or.mp (not_or.mp (not_or.mp hc16).2).2).2).2).2).1).1 ?_
            show Steps p.tables e below (s₁.setTop (mkF m 78 #[.val (.int p1)] [])) _
            refine XS.iloadN X0.here hx rfl (hb hby d2_78) rfl ?_
            show Steps p.tables e below (s₁.setTop (mkF m 79 #[.val (.int p1)] [(.int p1)])) _
            refine XS.bipush X0.here hx rfl (hb hby d2_79) ?_
            show Steps p.tables e below (s₁.setTop (mkF m 81 #[.val (.int p1)] [(.int (42 : Int32)), (.int p1)])) _
            refine XS.icmpNo X0.here hx rfl (hb hby d2_81) rfl (feq (not_or.mp (not_or.mp (not_or.mp (not_or.mp (not_or.mp (not_or.mp (not_or.mp hc16).2).2).2).2).2).2).1).1 ?_
            show Steps p.tables e below (s₁.setTop (mkF m 84 #[.val (.int p1)] [])) _
            refine XS.iloadN X0.here hx rfl (hb hby d2_84) rfl ?_
            show Steps p.tables e below (s₁.setTop (mkF m 85 #[.val (.int p1)] [(.int p1)])) _
            refine XS.bipush X0.here hx rfl (hb hby d2_85) ?_
            show Steps p.tables e below (s₁.setTop (mkF m 87 #[.val (.int p1)] [(.int (43 : Int32)), (.int p1)])) _
            refine XS.icmpNo X0.here hx rfl (hb hby d2_87) rfl (feq (not_or.mp (not_or.mp (not_or.mp (not_or.mp (not_or.mp (not_or.mp (not_or.mp (not_or.mp hc16).2).2).2).2).2).2).2).1).1 ?_
            show Steps p.tables e below (s₁.setTop (mkF m 90 #[.val (.int p1)] [])) _
            refine XS.iloadN X0.here hx rfl (hb hby d2_90) rfl ?_
            show Steps p.tables e below (s₁.setTop (mkF m 91 #[.val (.int p1)] [(.int p1)])) _
            refine XS.bipush X0.here hx rfl (hb hby d2_91) ?_
            show Steps p.tables e below (s₁.setTop (mkF m 93 #[.val (.int p1)] [(.int (45 : Int32)), (.int p1)])) _
            refine XS.icmpNo X0.here hx rfl (hb hby d2_93) rfl (feq (not_or.mp (not_or.mp (not_or.mp (not_or.mp (not_or.mp (not_or.mp (not_or.mp (not_or.mp (not_or.mp hc16).2).2).2).2).2).2).2).2).1).1 ?_
            show Steps p.tables e below (s₁.setTop (mkF m 96 #[.val (.int p1)] [])) _
            refine XS.iloadN X0.here hx rfl (hb hby d2_96) rfl ?_
            show Steps p.tables e below (s₁.setTop (mkF m 97 #[.val (.int p1)] [(.int p1)])) _
            refine XS.bipush X0.here hx rfl (hb hby d2_97) ?_
            show Steps p.tables e below (s₁.setTop (mkF m 99 #[.val (.int p1)] [(.int (46 : Int32)), (.int p1)])) _
            refine XS.icmpNo X0.here hx rfl (hb hby d2_99) rfl (feq (not_or.mp (not_or.mp (not_or.mp (not_or.mp (not_or.mp (not_or.mp (not_or.mp (not_or.mp (not_or.mp (not_or.mp hc16).2).2).2).2).2).2).2).2).2).1).1 ?_
            show Steps p.tables e below (s₁.setTop (mkF m 102 #[.val (.int p1)] [])) _
            refine XS.iloadN X0.here hx rfl (hb hby d2_102) rfl ?_
            show Steps p.tables e below (s₁.setTop (mkF m 103 #[.val (.int p1)] [(.int p1)])) _
            refine XS.bipush X0.here hx rfl (hb hby d2_103) ?_
            show Steps p.tables e below (s₁.setTop (mkF m 105 #[.val (.int p1)] [(.int (94 : Int32)), (.int p1)])) _
            refine XS.icmpNo X0.here hx rfl (hb hby d2_105) rfl (feq (not_or.mp (not_or.mp (not_or.mp (not_or.mp (not_or.mp (not_or.mp (not_or.mp (not_or.mp (not_or.mp (not_or.mp (not_or.mp hc16).2).2).2).2).2).2).2).2).2).2).1).1 ?_
            show Steps p.tables e below (s₁.setTop (mkF m 108 #[.val (.int p1)] [])) _
            refine XS.iloadN X0.here hx rfl (hb hby d2_108) rfl ?_
            show Steps p.tables e below (s₁.setTop (mkF m 109 #[.val (.int p1)] [(.int p1)])) _
            refine XS.bipush X0.here hx rfl (hb hby d2_109) ?_
            show Steps p.tables e below (s₁.setTop (mkF m 111 #[.val (.int p1)] [(.int (95 : Int32)), (.int p1)])) _
            refine XS.icmpNo X0.here hx rfl (hb hby d2_111) rfl (feq (not_or.mp (not_or.mp (not_or.mp (not_or.mp (not_or.mp (not_or.mp (not_or.mp (not_or.mp (not_or.mp (not_or.mp (not_or.mp (not_or.mp hc16).2).2).2).2).2).2).2).2).2).2).2).1).1 ?_
            show Steps p.tables e below (s₁.setTop (mkF m 114 #[.val (.int p1)] [])) _
            refine XS.iloadN X0.here hx rfl (hb hby d2_114) rfl ?_
            show Steps p.tables e below (s₁.setTop (mkF m 115 #[.val (.int p1)] [(.int p1)])) _
            refine XS.bipush X0.here hx rfl (hb hby d2_115) ?_
            show Steps p.tables e below (s₁.setTop (mkF m 117 #[.val (.int p1)] [(.int (96 : Int32)), (.int p1)])) _
            refine XS.icmpNo X0.here hx rfl (hb hby d2_117) rfl (feq (not_or.mp (not_or.mp (not_or.mp (not_or.mp (not_or.mp (not_or.mp (not_or.mp (not_or.mp (not_or.mp (not_or.mp (not_or.mp (not_or.mp (not_or.mp hc16).2).2).2).2).2).2).2).2).2).2).2).2).1).1 ?_
            show Steps p.tables e below (s₁.setTop (mkF m 120 #[.val (.int p1)] [])) _
            refine XS.iloadN X0.here hx rfl (hb hby d2_120) rfl ?_
            show Steps p.tables e below (s₁.setTop (mkF m 121 #[.val (.int p1)] [(.int p1)])) _
            refine XS.bipush X0.here hx rfl (hb hby d2_121) ?_
            show Steps p.tables e below (s₁.setTop (mkF m 123 #[.val (.int p1)] [(.int (124 : Int32)), (.int p1)])) _
            refine XS.icmpNo X0.here hx rfl (hb hby d2_123) rfl (feq (not_or.mp (not_or.mp (not_or.mp (not_or.mp (not_or.mp (not_or.mp (not_or.mp (not_or.mp (not_or.mp (not_or.mp (not_or.mp (not_or.mp (not_or.mp (not_or.mp hc16).2).2).2).2).2).2).2).2).2).2).2).2).2).1).1 ?_
            show Steps p.tables e below (s₁.setTop (mkF m 126 #[.val (.int p1)] [])) _
            refine XS.iloadN X0.here hx rfl (hb hby d2_126) rfl ?_
            show Steps p.tables e below (s₁.setTop (mkF m 127 #[.val (.int p1)] [(.int p1)])) _
            refine XS.bipush X0.here hx rfl (hb hby d2_127) ?_
            show Steps p.tables e below (s₁.setTop (mkF m 129 #[.val (.int p1)] [(.int (126 : Int32)), (.int p1)])) _
            refine XS.icmpYes X0.here hx rfl (pc0 := 129) (pc' := 136) rfl (hb hby d2_129) rfl (feq (not_or.mp (not_or.mp (not_or.mp (not_or.mp (not_or.mp (not_or.mp (not_or.mp (not_or.mp (not_or.mp (not_or.mp (not_or.mp (not_or.mp (not_or.mp (not_or.mp hc16).2).2).2).2).2).2).2).2).2).2).2).2).2).2).2 (by decide) (by decide) ?_
            show Steps p.tables e below (s₁.setTop (mkF m 136 #[.val (.int p1)] [])) _
            refine XS.iconst X0.here hx rfl (hb hby d2_136) ?_
            show Steps p.tables e below (s₁.setTop (mkF m 137 #[.val (.int p1)] [(.int (0 : Int32))])) _
            exact retN X0 hx (t := .boolean) Bd.returns (by simp) (hb hby d2_137) hr
          · show Q_rm2 Z p1 r h0 n0 _ s₁.heap _
            rw [e0]
            exact ⟨by rw [← hret]; simp only [tcharW, if_neg hc1, if_neg hc6, if_neg hc11, if_neg hc16], N0, rfl⟩
theorem d1_0 : decode prog_17_method_18_code 0 = .ok (.iload_n 0, 1) := by decide +kernel
theorem d1_1 : decode prog_17_method_18_code 1 = .ok (.getstatic 140, 3) := by decide +kernel
theorem d1_4 : decode prog_17_method_18_code 4 = .ok (.arraylength, 1) := by decide +kernel
theorem d1_5 : decode prog_17_method_18_code 5 = .ok (.if_icmp .ge 15, 3) := by decide +kernel
theorem d1_8 : decode prog_17_method_18_code 8 = .ok (.getstatic 140, 3) := by decide +kernel
theorem d1_11 : decode prog_17_method_18_code 11 = .ok (.iload_n 0, 1) := by decide +kernel
theorem d1_12 : decode prog_17_method_18_code 12 = .ok (.baload, 1) := by decide +kernel
theorem d1_13 : decode prog_17_method_18_code 13 = .ok (.ifCond .eq 7, 3) := by decide +kernel
theorem d1_16 : decode prog_17_method_18_code 16 = .ok (.iconst 1, 1) := by decide +kernel
theorem d1_17 : decode prog_17_method_18_code 17 = .ok (.goto 4, 3) := by decide +kernel
theorem d1_20 : decode prog_17_method_18_code 20 = .ok (.iconst 0, 1) := by decide +kernel
theorem d1_21 : decode prog_17_method_18_code 21 = .ok (.ireturn, 1) := by decide +kernel
theorem pn_rm1 : plainName "com/example/bouncer/bouncer/http/Fields" = true := by first | (simp [plainName, overriddenIn]; done) | decide +kernel
theorem ef_rm1 (m : MethodId) (p1 : Int32) : entryFrame m #[(.int p1)] 1 = mkF m 0 #[.val (.int p1)] [] := by first | (simp [entryFrame, mkF, argsToLocals, Value.category]; done) | rfl
def Q_rm1 (Z : State) (p1 : Int32) (w : Addr) (cl : Cell) (r : Int32) (h0 : Heap) (n0 : Nat) (v : Option Value) (h : Heap) (L : List Loc) : Prop := v = some (.int r) ∧ Fr n0 L ∧ h = h0
set_option maxRecDepth 65536 in
set_option maxHeartbeats 40000000 in
theorem rm1 (l : Launch) (Z : State) (a0 : Array Value) (hw : ∀ d ∈ tables_1, d.before a0 Z = true) (ws : List Jvm.Cond) (p1 : Int32) (w : Addr) (cl : Cell) (r : Int32) (h0 : Heap) (n0 : Nat) (Z0 : n0 ≤ h0.size) (S_T : Sta Z h0 "com/example/bouncer/bouncer/http/Fields" "TOKEN_CHARACTERS" "[Z" (.ref w)) (Ar : Arr Z h0 w cl .boolean) (hS : cl.slots.size = (128 : Int32).toNatClampNeg) (htab : ∀ c : Int32, ¬ c < 0 → c < 128 → cl.slots[c.toNatClampNeg]? = some (.int (tcharW c))) (hp0 : ¬ p1 < 0) (hret : (if p1 < 128 then tcharW p1 else 0) = r) :
    MetFree l (⟨"com/example/bouncer/bouncer/http/Fields", "isTokenCharacter", "(C)Z"⟩ : MethodName) (head1 (Jvm.Cond.code (⟨"com/example/bouncer/bouncer/http/Fields", "isTokenCharacter", "(C)Z"⟩ : MethodName) prog_17_method_18_code 1 (some .boolean) :: ws) ({ frames := 0, cells := 0, slots := 0, locals := 0 } : Room)) (fun a U => a = #[(.int p1)] ∧ Z.Warmed39 U.vm ∧ U.heap = h0) (fun _ _ _ _ _ => True) (fun _ U o U' => ∃ v L, o = .returned v ∧ Q_rm1 Z p1 w cl r h0 n0 v U'.heap L ∧ FrameEnd U o U' L ({ frames := 0, cells := 0, slots := 0, locals := 0 } : Room).cells ({ frames := 0, cells := 0, slots := 0, locals := 0 } : Room).slots) := by
  refine MetFree.of_bodySF (plainFor_of_name pn_rm1) hisR ?_
  intro p e s m args below meth c s₁ Bd hml0 hP hK
  obtain ⟨rfl, hZ, hh⟩ := hP
  have hx := Bd.exec
  have hby := Bd.bytes
  have hml : c.maxLocals = 1 := hml0
  have hown : s.vm.findClass "com/example/bouncer/bouncer/http/Fields" = some m.cls := findClass_of_methodNamed Bd.named
  have hnm := (name_of_methodNamed Bd.named Bd.method).1
  have X0 : Stand p l e ({ frames := 0, cells := 0, slots := 0, locals := 0 } : Room) s m #[(.int p1)] below meth c s₁ [] 0 0 := Stand.of_body Bd
  have e0 : s₁.heap = h0 := by rw [← hh, Bd.state]; rfl
  have N0 := Fr.nil n0
  have pre0 : ∀ t, Steps p.tables e below (s₁.setTop (mkF m 0 #[.val (.int p1)] [])) t → Steps p.tables e below (s₁.setTop (entryFrame m #[(.int p1)] 1)) t := fun t k => castTop (ef_rm1 m p1) k
  obtain ⟨T1, X1, e1, st1⟩ := getS2 X0 hx hZ hown (host := "") (Or.inl (hw _ (List.mem_of_getElem? (i := 4) rfl))) Via.refl e0 S_T (g := (mkF m 1 #[.val (.int p1)] [(.int p1)])) rfl (hb hby d1_1)
  have pre2 : ∀ t, Steps p.tables e below (T1.setTop (mkF m 5 #[.val (.int p1)] [(.int (128 : Int32)), (.int p1)])) t → Steps p.tables e below (s₁.setTop (entryFrame m #[(.int p1)] 1)) t := fun t k => pre0 t (by
      show Steps p.tables e below (s₁.setTop (mkF m 0 #[.val (.int p1)] [])) _
      refine XS.iloadN X0.here hx rfl (hb hby d1_0) rfl ?_
      show Steps p.tables e below (s₁.setTop (mkF m 1 #[.val (.int p1)] [(.int p1)])) _
      refine st1 _ ?_
      show Steps p.tables e below (T1.setTop (mkF m 4 #[.val (.int p1)] [(.ref w), (.int p1)])) _
      refine X1.arraylength hx (by rw [e1]; exact Ar.1) (State.isArrayOf_alike hZ.alike Ar.2.1) (g := (mkF m 4 #[.val (.int p1)] [(.ref w), (.int p1)])) rfl rfl (hb hby d1_4) _ ?_
      rw [len_of hS (by decide)]
      exact k)
  by_cases hc3 : p1 < (128 : Int32)
  · obtain ⟨T4, X4, e4, st4⟩ := getS2 X1 hx hZ hown (host := "") (Or.inl (hw _ (List.mem_of_getElem? (i := 4) rfl))) Via.refl e1 S_T (g := (mkF m 8 #[.val (.int p1)] [])) rfl (hb hby d1_8)
    have pre5 : ∀ t, Steps p.tables e below (T4.setTop (mkF m 13 #[.val (.int p1)] [(.int (tcharW p1))])) t → Steps p.tables e below (s₁.setTop (entryFrame m #[(.int p1)] 1)) t := fun t k => pre2 t (by
        show Steps p.tables e below (T1.setTop (mkF m 5 #[.val (.int p1)] [(.int (128 : Int32)), (.int p1)])) _
        refine XS.icmpNo X1.here hx rfl (hb hby d1_5) rfl (tlt hc3).2.1 ?_
        show Steps p.tables e below (T1.setTop (mkF m 8 #[.val (.int p1)] [])) _
        refine st4 _ ?_
        show Steps p.tables e below (T4.setTop (mkF m 11 #[.val (.int p1)] [(.ref w)])) _
        refine XS.iloadN X4.here hx rfl (hb hby d1_11) rfl ?_
        show Steps p.tables e below (T4.setTop (mkF m 12 #[.val (.int p1)] [(.int p1), (.ref w)])) _
        refine X4.baloadBooleans hx (j := p1) (v := (.int (tcharW p1))) (by rw [e4]; exact Ar.1) (State.isArrayOf_alike hZ.alike Ar.2.1) Ar.2.2 (inb_of hS ⟨hp0, hc3⟩) (htab p1 hp0 hc3) (g := (mkF m 12 #[.val (.int p1)] [(.int p1), (.ref w)])) rfl rfl (hb hby d1_12) _ ?_
        exact k)
    by_cases hc6 : (tcharW p1) = (0 : Int32)
    · obtain ⟨fs, hr, hrun, hended, hW, hsame⟩ := X4.leave (v := some (.int (0 : Int32))) (fun h => by rw [Bd.returns] at h; cases h)
      refine ⟨_, _, pre5 _ ?_, hrun, hended, _, _, rfl, ?_, ⟨_, rfl⟩, hW, hsame.mono (by decide) (by decide)⟩
      · show Steps p.tables e below (T4.setTop (mkF m 13 #[.val (.int p1)] [(.int (tcharW p1))])) _
        refine XS.ifYes X4.here hx rfl (pc0 := 13) (pc' := 20) rfl (hb hby d1_13) rfl ((if0 _ _).trans (teq hc6).1) (by decide) (by decide) ?_
        show Steps p.tables e below (T4.setTop (mkF m 20 #[.val (.int p1)] [])) _
        refine XS.iconst X4.here hx rfl (hb hby d1_20) ?_
        show Steps p.tables e below (T4.setTop (mkF m 21 #[.val (.int p1)] [(.int (0 : Int32))])) _
        exact retN X4 hx (t := .boolean) Bd.returns (by simp) (hb hby d1_21) hr
      · show Q_rm1 Z p1 w cl r h0 n0 _ T4.heap _
        rw [e4]
        exact ⟨by rw [← hret, if_pos hc3, hc6], N0, rfl⟩
    · obtain ⟨fs, hr, hrun, hended, hW, hsame⟩ := X4.leave (v := some (.int (1 : Int32))) (fun h => by rw [Bd.returns] at h; cases h)
      refine ⟨_, _, pre5 _ ?_, hrun, hended, _, _, rfl, ?_, ⟨_, rfl⟩, hW, hsame.mono (by decide) (by decide)⟩
      · show Steps p.tables e below (T4.setTop (mkF m 13 #[.val (.int p1)] [(.int (tcharW p1))])) _
        refine XS.ifNo X4.here hx rfl (hb hby d1_13) rfl ((if0 _ _).trans (feq hc6).1) ?_
        show Steps p.tables e below (T4.setTop (mkF m 16 #[.val (.int p1)] [])) _
        refine XS.iconst X4.here hx rfl (hb hby d1_16) ?_
        show Steps p.tables e below (T4.setTop (mkF m 17 #[.val (.int p1)] [(.int (1 : Int32))])) _
        refine XS.goto X4.here hx rfl (pc0 := 17) (pc' := 21) rfl (hb hby d1_17) (by decide) (by decide) ?_
        show Steps p.tables e below (T4.setTop (mkF m 21 #[.val (.int p1)] [(.int (1 : Int32))])) _
        exact retN X4 hx (t := .boolean) Bd.returns (by simp) (hb hby d1_21) hr
      · show Q_rm1 Z p1 w cl r h0 n0 _ T4.heap _
        rw [e4]
        exact ⟨by rw [← hret, if_pos hc3, (own_t01 p1).resolve_left hc6], N0, rfl⟩
  · obtain ⟨fs, hr, hrun, hended, hW, hsame⟩ := X1.leave (v := some (.int (0 : Int32))) (fun h => by rw [Bd.returns] at h; cases h)
    refine ⟨_, _, pre2 _ ?_, hrun, hended, _, _, rfl, ?_, ⟨_, rfl⟩, hW, hsame.mono (by decide) (by decide)⟩
    · show Steps p.tables e below (T1.setTop (mkF m 5 #[.val (.int p1)] [(.int (128 : Int32)), (.int p1)])) _
      refine XS.icmpYes X1.here hx rfl (pc0 := 5) (pc' := 20) rfl (hb hby d1_5) rfl (flt hc3).2.1 (by decide) (by decide) ?_
      show Steps p.tables e below (T1.setTop (mkF m 20 #[.val (.int p1)] [])) _
      refine XS.iconst X1.here hx rfl (hb hby d1_20) ?_
      show Steps p.tables e below (T1.setTop (mkF m 21 #[.val (.int p1)] [(.int (0 : Int32))])) _
      exact retN X1 hx (t := .boolean) Bd.returns (by simp) (hb hby d1_21) hr
    · show Q_rm1 Z p1 w cl r h0 n0 _ T1.heap _
      rw [e1]
      exact ⟨by rw [← hret, if_neg hc3], N0, rfl⟩
theorem pn_rm0 : plainName "com/example/bouncer/bouncer/http/FieldsIsTokenCharacterPinLaw" = true := by first | (simp [plainName, overriddenIn]; done) | decide +kernel
theorem pd_rm0_0 : parseMethodDescriptor "(C)Z" = some ⟨[.char], some .boolean⟩ := by decide +kernel
theorem ef_rm0 (m : MethodId) (p1 : Int32) (p2 : Int32) : entryFrame m #[(.int p1), (.int p2)] maxLocals = mkF m 0 #[.val (.int p1), .val (.int p2), .unset] [] := by first | (simp [entryFrame, mkF, argsToLocals, Value.category, maxLocals]; done) | rfl
def Q_rm0 (Z : State) (p1 : Int32) (p2 : Int32) (w : Addr) (cl : Cell) (h0 : Heap) (n0 : Nat) (v : Option Value) (h : Heap) (L : List Loc) : Prop := v = some (.int (1 : Int32)) ∧ Fr n0 L
set_option maxRecDepth 65536 in
set_option maxHeartbeats 40000000 in
theorem rm0 (l : Launch) (Z : State) (a0 : Array Value) (hw : ∀ d ∈ tables_1, d.before a0 Z = true) (ws : List Jvm.Cond) (p1 : Int32) (p2 : Int32) (w : Addr) (cl : Cell) (h0 : Heap) (n0 : Nat) (Z0 : n0 ≤ h0.size) (S_T : Sta Z h0 "com/example/bouncer/bouncer/http/Fields" "TOKEN_CHARACTERS" "[Z" (.ref w)) (Ar : Arr Z h0 w cl .boolean) (hS : cl.slots.size = (128 : Int32).toNatClampNeg) (htab : ∀ c : Int32, ¬ c < 0 → c < 128 → cl.slots[c.toNatClampNeg]? = some (.int (tcharW c))) :
    MetFree l x (head1 (Jvm.Cond.code x code maxLocals ret :: ws) room_1) (fun a U => a = #[(.int p1), (.int p2)] ∧ Z.Warmed39 U.vm ∧ U.heap = h0) (fun _ _ _ _ _ => True) (fun _ U o U' => ∃ v L, o = .returned v ∧ Q_rm0 Z p1 p2 w cl h0 n0 v U'.heap L ∧ FrameEnd U o U' L room_1.cells room_1.slots) := by
  refine MetFree.of_bodySF (plainFor_of_name pn_rm0) hisR ?_
  intro p e s m args below meth c s₁ Bd hml0 hP hK
  obtain ⟨rfl, hZ, hh⟩ := hP
  have hx := Bd.exec
  have hby := Bd.bytes
  have hml : c.maxLocals = 3 := hml0
  have hown : s.vm.findClass "com/example/bouncer/bouncer/http/FieldsIsTokenCharacterPinLaw" = some m.cls := findClass_of_methodNamed Bd.named
  have hnm := (name_of_methodNamed Bd.named Bd.method).1
  have X0 : Stand p l e room_1 s m #[(.int p1), (.int p2)] below meth c s₁ [] 0 0 := Stand.of_body Bd
  have e0 : s₁.heap = h0 := by rw [← hh, Bd.state]; rfl
  have N0 := Fr.nil n0
  have pre0 : ∀ t, Steps p.tables e below (s₁.setTop (mkF m 0 #[.val (.int p1), .val (.int p2), .unset] [])) t → Steps p.tables e below (s₁.setTop (entryFrame m #[(.int p1), (.int p2)] maxLocals)) t := fun t k => castTop (ef_rm0 m p1 p2) k
  have pre1 : ∀ t, Steps p.tables e below (s₁.setTop (mkF m 3 #[.val (.int p1), .val (.int p2), .unset] [(.int (p2 &&& (1 : Int32)))])) t → Steps p.tables e below (s₁.setTop (entryFrame m #[(.int p1), (.int p2)] maxLocals)) t := fun t k => pre0 t (by
      show Steps p.tables e below (s₁.setTop (mkF m 0 #[.val (.int p1), .val (.int p2), .unset] [])) _
      refine XS.iloadN X0.here hx rfl (hb hby at_0) rfl ?_
      show Steps p.tables e below (s₁.setTop (mkF m 1 #[.val (.int p1), .val (.int p2), .unset] [(.int p2)])) _
      refine XS.iconst X0.here hx rfl (hb hby at_1) ?_
      show Steps p.tables e below (s₁.setTop (mkF m 2 #[.val (.int p1), .val (.int p2), .unset] [(.int (1 : Int32)), (.int p2)])) _
      refine XS.iand X0.here hx rfl (hb hby at_2) rfl ?_
      exact k)
  by_cases hc2 : (p2 &&& (1 : Int32)) = (0 : Int32)
  · obtain ⟨_, _, ⟨T3, L3, k3, n3⟩, -, X3, ⟨Lc3, hQ3, l3, y3, z3⟩, st3⟩ := Jvm.LawKit.callS X0 hx (y := (⟨"com/example/bouncer/bouncer/http/Fields", "isTokenCharacter", "(C)Z"⟩ : MethodName)) hown (mvT hZ (hw _ (List.mem_of_getElem? (i := 0) rfl))) (mvT hZ (hw _ (List.mem_of_getElem? (i := 1) rfl))) (mvT hZ (hw _ (List.mem_of_getElem? (i := 2) rfl))) (mvT hZ (hw _ (List.mem_of_getElem? (i := 3) rfl))) (by decide) (backOf (W := 0) (rm1 l Z a0 hw [] (p1.toUInt32.toUInt16.toUInt32.toInt32) w cl (tcharW (p1.toUInt32.toUInt16.toUInt32.toInt32)) h0 n0 Z0 S_T Ar hS htab (own_i2c0 _) (own_tret _)) hZ (hw _ (List.mem_of_getElem? (i := 3) rfl)) (hw _ (List.mem_of_getElem? (i := 2) rfl)) (by decide) (by decide)) (g := (mkF m 18 #[.val (.int p1), .val (.int p2), .val (.int (p1.toUInt32.toUInt16.toUInt32.toInt32))] [(.int (p1.toUInt32.toUInt16.toUInt32.toInt32))])) rfl (by rw [hml]; rfl) (argsL := [(.int (p1.toUInt32.toUInt16.toUInt32.toInt32))]) (rest := []) (lenOf pd_rm0_0 rfl) rfl (by show 2 * 0 + _ ≤ _; exact Nat.le_of_eq rfl) (hb hby at_18) (fun _ _ => ⟨rfl, e0, (by decide : 0 + 0 ≤ _), (by decide : 0 + 0 ≤ _)⟩)
    dsimp only [Pt.U, Pt.locs, Pt.cells, Pt.slots] at X3 l3 y3 z3 st3 hQ3
    subst l3 y3 z3
    obtain ⟨rfl, N3q, e3⟩ := hQ3
    have N3 := Fr.app N0 N3q
    obtain ⟨_, _, ⟨T4, L4, k4, n4⟩, -, X4, ⟨Lc4, hQ4, l4, y4, z4⟩, st4⟩ := Jvm.LawKit.callS X3 hx (y := (⟨"com/example/bouncer/bouncer/http/FieldsIsTokenCharacterPinLaw", "tchar", "(C)Z"⟩ : MethodName)) hown (mvT hZ (hw _ (List.mem_of_getElem? (i := 6) rfl))) (mvT hZ (hw _ (List.mem_of_getElem? (i := 7) rfl))) (mvT hZ (hw _ (List.mem_of_getElem? (i := 8) rfl))) (mvT hZ (hw _ (List.mem_of_getElem? (i := 9) rfl))) (by decide) (backOf (W := 1) (rm2 l Z a0 hw [] (p1.toUInt32.toUInt16.toUInt32.toInt32) (tcharW (p1.toUInt32.toUInt16.toUInt32.toInt32)) h0 n0 Z0 rfl) hZ (hw _ (List.mem_of_getElem? (i := 9) rfl)) (hw _ (List.mem_of_getElem? (i := 8) rfl)) (by decide) (by decide)) (g := (mkF m 22 #[.val (.int p1), .val (.int p2), .val (.int (p1.toUInt32.toUInt16.toUInt32.toInt32))] [(.int (p1.toUInt32.toUInt16.toUInt32.toInt32)), (.int (tcharW (p1.toUInt32.toUInt16.toUInt32.toInt32)))])) rfl (by rw [hml]; rfl) (argsL := [(.int (p1.toUInt32.toUInt16.toUInt32.toInt32))]) (rest := [(.int (tcharW (p1.toUInt32.toUInt16.toUInt32.toInt32)))]) (lenOf pd_rm0_0 rfl) rfl (by show 2 * 0 + _ ≤ _; exact Nat.le_of_eq rfl) (hb hby at_22) (fun _ _ => ⟨rfl, e3, (by decide : 0 + 0 ≤ _), (by decide : 0 + 0 ≤ _)⟩)
    dsimp only [Pt.U, Pt.locs, Pt.cells, Pt.slots] at X4 l4 y4 z4 st4 hQ4
    subst l4 y4 z4
    obtain ⟨rfl, N4q, e4⟩ := hQ4
    have N4 := Fr.app N3 N4q
    obtain ⟨fs, hr, hrun, hended, hW, hsame⟩ := X4.leave (v := some (.int (1 : Int32))) (fun h => by rw [Bd.returns] at h; cases h)
    refine ⟨_, _, pre1 _ ?_, hrun, hended, _, _, rfl, ?_, ⟨_, rfl⟩, hW, hsame.mono (by decide) (by decide)⟩
    · show Steps p.tables e below (s₁.setTop (mkF m 3 #[.val (.int p1), .val (.int p2), .unset] [(.int (p2 &&& (1 : Int32)))])) _
      refine XS.ifYes X0.here hx rfl (pc0 := 3) (pc' := 14) rfl (hb hby at_3) rfl ((if0 _ _).trans (teq hc2).1) (by decide) (by decide) ?_
      show Steps p.tables e below (s₁.setTop (mkF m 14 #[.val (.int p1), .val (.int p2), .unset] [])) _
      refine XS.iloadN X0.here hx rfl (hb hby at_14) rfl ?_
      show Steps p.tables e below (s₁.setTop (mkF m 15 #[.val (.int p1), .val (.int p2), .unset] [(.int p1)])) _
      refine XS.i2c X0.here hx rfl (hb hby at_15) rfl ?_
      show Steps p.tables e below (s₁.setTop (mkF m 16 #[.val (.int p1), .val (.int p2), .unset] [(.int (p1.toUInt32.toUInt16.toUInt32.toInt32))])) _
      refine XS.istoreN X0.here hx rfl (hb hby at_16) rfl (l' := #[.val (.int p1), .val (.int p2), .val (.int (p1.toUInt32.toUInt16.toUInt32.toInt32))]) rfl ?_
      show Steps p.tables e below (s₁.setTop (mkF m 17 #[.val (.int p1), .val (.int p2), .val (.int (p1.toUInt32.toUInt16.toUInt32.toInt32))] [])) _
      refine XS.iloadN X0.here hx rfl (hb hby at_17) rfl ?_
      show Steps p.tables e below (s₁.setTop (mkF m 18 #[.val (.int p1), .val (.int p2), .val (.int (p1.toUInt32.toUInt16.toUInt32.toInt32))] [(.int (p1.toUInt32.toUInt16.toUInt32.toInt32))])) _
      refine st3 _ ?_
      show Steps p.tables e below (T3.setTop (mkF m 21 #[.val (.int p1), .val (.int p2), .val (.int (p1.toUInt32.toUInt16.toUInt32.toInt32))] [(.int (tcharW (p1.toUInt32.toUInt16.toUInt32.toInt32)))])) _
      refine XS.iloadN X3.here hx rfl (hb hby at_21) rfl ?_
      show Steps p.tables e below (T3.setTop (mkF m 22 #[.val (.int p1), .val (.int p2), .val (.int (p1.toUInt32.toUInt16.toUInt32.toInt32))] [(.int (p1.toUInt32.toUInt16.toUInt32.toInt32)), (.int (tcharW (p1.toUInt32.toUInt16.toUInt32.toInt32)))])) _
      refine st4 _ ?_
      show Steps p.tables e below (T4.setTop (mkF m 25 #[.val (.int p1), .val (.int p2), .val (.int (p1.toUInt32.toUInt16.toUInt32.toInt32))] [(.int (tcharW (p1.toUInt32.toUInt16.toUInt32.toInt32))), (.int (tcharW (p1.toUInt32.toUInt16.toUInt32.toInt32)))])) _
      refine XS.icmpNo X4.here hx rfl (hb hby at_25) rfl (teq (rfl : (tcharW (p1.toUInt32.toUInt16.toUInt32.toInt32)) = (tcharW (p1.toUInt32.toUInt16.toUInt32.toInt32)))).2 ?_
      show Steps p.tables e below (T4.setTop (mkF m 28 #[.val (.int p1), .val (.int p2), .val (.int (p1.toUInt32.toUInt16.toUInt32.toInt32))] [])) _
      refine XS.iconst X4.here hx rfl (hb hby at_28) ?_
      show Steps p.tables e below (T4.setTop (mkF m 29 #[.val (.int p1), .val (.int p2), .val (.int (p1.toUInt32.toUInt16.toUInt32.toInt32))] [(.int (1 : Int32))])) _
      refine XS.goto X4.here hx rfl (pc0 := 29) (pc' := 33) rfl (hb hby at_29) (by decide) (by decide) ?_
      show Steps p.tables e below (T4.setTop (mkF m 33 #[.val (.int p1), .val (.int p2), .val (.int (p1.toUInt32.toUInt16.toUInt32.toInt32))] [(.int (1 : Int32))])) _
      exact retN X4 hx (t := .boolean) Bd.returns (by simp) (hb hby at_33) hr
    · show Q_rm0 Z p1 p2 w cl h0 n0 _ T4.heap _
      rw [e4]
      exact ⟨rfl, N4⟩
  · obtain ⟨_, _, ⟨T5, L5, k5, n5⟩, -, X5, ⟨Lc5, hQ5, l5, y5, z5⟩, st5⟩ := Jvm.LawKit.callS X0 hx (y := (⟨"com/example/bouncer/bouncer/http/Fields", "isTokenCharacter", "(C)Z"⟩ : MethodName)) hown (mvT hZ (hw _ (List.mem_of_getElem? (i := 0) rfl))) (mvT hZ (hw _ (List.mem_of_getElem? (i := 1) rfl))) (mvT hZ (hw _ (List.mem_of_getElem? (i := 2) rfl))) (mvT hZ (hw _ (List.mem_of_getElem? (i := 3) rfl))) (by decide) (backOf (W := 0) (rm1 l Z a0 hw [] ((p1 &&& (127 : Int32)).toUInt32.toUInt16.toUInt32.toInt32) w cl (tcharW ((p1 &&& (127 : Int32)).toUInt32.toUInt16.toUInt32.toInt32)) h0 n0 Z0 S_T Ar hS htab (own_i2c0 _) (own_tret _)) hZ (hw _ (List.mem_of_getElem? (i := 3) rfl)) (hw _ (List.mem_of_getElem? (i := 2) rfl)) (by decide) (by decide)) (g := (mkF m 18 #[.val (.int p1), .val (.int p2), .val (.int ((p1 &&& (127 : Int32)).toUInt32.toUInt16.toUInt32.toInt32))] [(.int ((p1 &&& (127 : Int32)).toUInt32.toUInt16.toUInt32.toInt32))])) rfl (by rw [hml]; rfl) (argsL := [(.int ((p1 &&& (127 : Int32)).toUInt32.toUInt16.toUInt32.toInt32))]) (rest := []) (lenOf pd_rm0_0 rfl) rfl (by show 2 * 0 + _ ≤ _; exact Nat.le_of_eq rfl) (hb hby at_18) (fun _ _ => ⟨rfl, e0, (by decide : 0 + 0 ≤ _), (by decide : 0 + 0 ≤ _)⟩)
    dsimp only [Pt.U, Pt.locs, Pt.cells, Pt.slots] at X5 l5 y5 z5 st5 hQ5
    subst l5 y5 z5
    obtain ⟨rfl, N5q, e5⟩ := hQ5
    have N5 := Fr.app N0 N5q
    obtain ⟨_, _, ⟨T6, L6, k6, n6⟩, -, X6, ⟨Lc6, hQ6, l6, y6, z6⟩, st6⟩ := Jvm.LawKit.callS X5 hx (y := (⟨"com/example/bouncer/bouncer/http/FieldsIsTokenCharacterPinLaw", "tchar", "(C)Z"⟩ : MethodName)) hown (mvT hZ (hw _ (List.mem_of_getElem? (i := 6) rfl))) (mvT hZ (hw _ (List.mem_of_getElem? (i := 7) rfl))) (mvT hZ (hw _ (List.mem_of_getElem? (i := 8) rfl))) (mvT hZ (hw _ (List.mem_of_getElem? (i := 9) rfl))) (by decide) (backOf (W := 1) (rm2 l Z a0 hw [] ((p1 &&& (127 : Int32)).toUInt32.toUInt16.toUInt32.toInt32) (tcharW ((p1 &&& (127 : Int32)).toUInt32.toUInt16.toUInt32.toInt32)) h0 n0 Z0 rfl) hZ (hw _ (List.mem_of_getElem? (i := 9) rfl)) (hw _ (List.mem_of_getElem? (i := 8) rfl)) (by decide) (by decide)) (g := (mkF m 22 #[.val (.int p1), .val (.int p2), .val (.int ((p1 &&& (127 : Int32)).toUInt32.toUInt16.toUInt32.toInt32))] [(.int ((p1 &&& (127 : Int32)).toUInt32.toUInt16.toUInt32.toInt32)), (.int (tcharW ((p1 &&& (127 : Int32)).toUInt32.toUInt16.toUInt32.toInt32)))])) rfl (by rw [hml]; rfl) (argsL := [(.int ((p1 &&& (127 : Int32)).toUInt32.toUInt16.toUInt32.toInt32))]) (rest := [(.int (tcharW ((p1 &&& (127 : Int32)).toUInt32.toUInt16.toUInt32.toInt32)))]) (lenOf pd_rm0_0 rfl) rfl (by show 2 * 0 + _ ≤ _; exact Nat.le_of_eq rfl) (hb hby at_22) (fun _ _ => ⟨rfl, e5, (by decide : 0 + 0 ≤ _), (by decide : 0 + 0 ≤ _)⟩)
    dsimp only [Pt.U, Pt.locs, Pt.cells, Pt.slots] at X6 l6 y6 z6 st6 hQ6
    subst l6 y6 z6
    obtain ⟨rfl, N6q, e6⟩ := hQ6
    have N6 := Fr.app N5 N6q
    obtain ⟨fs, hr, hrun, hended, hW, hsame⟩ := X6.leave (v := some (.int (1 : Int32))) (fun h => by rw [Bd.returns] at h; cases h)
    refine ⟨_, _, pre1 _ ?_, hrun, hended, _, _, rfl, ?_, ⟨_, rfl⟩, hW, hsame.mono (by decide) (by decide)⟩
    · show Steps p.tables e below (s₁.setTop (mkF m 3 #[.val (.int p1), .val (.int p2), .unset] [(.int (p2 &&& (1 : Int32)))])) _
      refine XS.ifNo X0.here hx rfl (hb hby at_3) rfl ((if0 _ _).trans (feq hc2).1) ?_
      show Steps p.tables e below (s₁.setTop (mkF m 6 #[.val (.int p1), .val (.int p2), .unset] [])) _
      refine XS.iloadN X0.here hx rfl (hb hby at_6) rfl ?_
      show Steps p.tables e below (s₁.setTop (mkF m 7 #[.val (.int p1), .val (.int p2), .unset] [(.int p1)])) _
      refine XS.bipush X0.here hx rfl (hb hby at_7) ?_
      show Steps p.tables e below (s₁.setTop (mkF m 9 #[.val (.int p1), .val (.int p2), .unset] [(.int (127 : Int32)), (.int p1)])) _
      refine XS.iand X0.here hx rfl (hb hby at_9) rfl ?_
      show Steps p.tables e below (s₁.setTop (mkF m 10 #[.val (.int p1), .val (.int p2), .unset] [(.int (p1 &&& (127 : Int32)))])) _
      refine XS.i2c X0.here hx rfl (hb hby at_10) rfl ?_
      show Steps p.tables e below (s₁.setTop (mkF m 11 #[.val (.int p1), .val (.int p2), .unset] [(.int ((p1 &&& (127 : Int32)).toUInt32.toUInt16.toUInt32.toInt32))])) _
      refine XS.goto X0.here hx rfl (pc0 := 11) (pc' := 16) rfl (hb hby at_11) (by decide) (by decide) ?_
      show Steps p.tables e below (s₁.setTop (mkF m 16 #[.val (.int p1), .val (.int p2), .unset] [(.int ((p1 &&& (127 : Int32)).toUInt32.toUInt16.toUInt32.toInt32))])) _
      refine XS.istoreN X0.here hx rfl (hb hby at_16) rfl (l' := #[.val (.int p1), .val (.int p2), .val (.int ((p1 &&& (127 : Int32)).toUInt32.toUInt16.toUInt32.toInt32))]) rfl ?_
      show Steps p.tables e below (s₁.setTop (mkF m 17 #[.val (.int p1), .val (.int p2), .val (.int ((p1 &&& (127 : Int32)).toUInt32.toUInt16.toUInt32.toInt32))] [])) _
      refine XS.iloadN X0.here hx rfl (hb hby at_17) rfl ?_
      show Steps p.tables e below (s₁.setTop (mkF m 18 #[.val (.int p1), .val (.int p2), .val (.int ((p1 &&& (127 : Int32)).toUInt32.toUInt16.toUInt32.toInt32))] [(.int ((p1 &&& (127 : Int32)).toUInt32.toUInt16.toUInt32.toInt32))])) _
      refine st5 _ ?_
      show Steps p.tables e below (T5.setTop (mkF m 21 #[.val (.int p1), .val (.int p2), .val (.int ((p1 &&& (127 : Int32)).toUInt32.toUInt16.toUInt32.toInt32))] [(.int (tcharW ((p1 &&& (127 : Int32)).toUInt32.toUInt16.toUInt32.toInt32)))])) _
      refine XS.iloadN X5.here hx rfl (hb hby at_21) rfl ?_
      show Steps p.tables e below (T5.setTop (mkF m 22 #[.val (.int p1), .val (.int p2), .val (.int ((p1 &&& (127 : Int32)).toUInt32.toUInt16.toUInt32.toInt32))] [(.int ((p1 &&& (127 : Int32)).toUInt32.toUInt16.toUInt32.toInt32)), (.int (tcharW ((p1 &&& (127 : Int32)).toUInt32.toUInt16.toUInt32.toInt32)))])) _
      refine st6 _ ?_
      show Steps p.tables e below (T6.setTop (mkF m 25 #[.val (.int p1), .val (.int p2), .val (.int ((p1 &&& (127 : Int32)).toUInt32.toUInt16.toUInt32.toInt32))] [(.int (tcharW ((p1 &&& (127 : Int32)).toUInt32.toUInt16.toUInt32.toInt32))), (.int (tcharW ((p1 &&& (127 : Int32)).toUInt32.toUInt16.toUInt32.toInt32)))])) _
      refine XS.icmpNo X6.here hx rfl (hb hby at_25) rfl (teq (rfl : (tcharW ((p1 &&& (127 : Int32)).toUInt32.toUInt16.toUInt32.toInt32)) = (tcharW ((p1 &&& (127 : Int32)).toUInt32.toUInt16.toUInt32.toInt32)))).2 ?_
      show Steps p.tables e below (T6.setTop (mkF m 28 #[.val (.int p1), .val (.int p2), .val (.int ((p1 &&& (127 : Int32)).toUInt32.toUInt16.toUInt32.toInt32))] [])) _
      refine XS.iconst X6.here hx rfl (hb hby at_28) ?_
      show Steps p.tables e below (T6.setTop (mkF m 29 #[.val (.int p1), .val (.int p2), .val (.int ((p1 &&& (127 : Int32)).toUInt32.toUInt16.toUInt32.toInt32))] [(.int (1 : Int32))])) _
      refine XS.goto X6.here hx rfl (pc0 := 29) (pc' := 33) rfl (hb hby at_29) (by decide) (by decide) ?_
      show Steps p.tables e below (T6.setTop (mkF m 33 #[.val (.int p1), .val (.int p2), .val (.int ((p1 &&& (127 : Int32)).toUInt32.toUInt16.toUInt32.toInt32))] [(.int (1 : Int32))])) _
      exact retN X6 hx (t := .boolean) Bd.returns (by simp) (hb hby at_33) hr
    · show Q_rm0 Z p1 p2 w cl h0 n0 _ T6.heap _
      rw [e6]
      exact ⟨rfl, N6⟩
set_option maxRecDepth 65536 in
set_option maxHeartbeats 40000000 in
theorem comes_1 {Post : Tables → Env → Array Value → State → Outcome → State → Prop} (hpost : ∀ tb e args s v u, (limb_1_1.after args s (.returned v) u = true ∧ limb_1_2.after args s (.returned v) u = true ∧ True) → FrameEnd s (.returned v) u (Jvm.fieldLocs frame_1_writes args s ++ Jvm.arrayLocs frame_1_arrays args s ++ Jvm.staticLocs frame_1_statics s) 0 0 → Post tb e args s (.returned v) u) :
    ArmFor flags0 classFile x code maxLocals ret World_1 tables_1 room_1 Calls_1 rest_1 Pre_1 Post := by
  intro l hfl _ _ p e ha hc hk s m args below hf hA hF happ hP
  obtain ⟨hcalls, hrest, hpre⟩ := hP
  obtain ⟨-, -, -, hnamed, -, -, -, hat⟩ := (Spec.applies_iff hf).mp happ
  obtain ⟨hg, hn⟩ := and_e (Cond.before_iff.mp (show (Jvm.Cond.and given_1 narrow_1).before args s = true from hpre))
  obtain ⟨hcount, hgs⟩ := and_e hg
  obtain ⟨hg0, hgr0⟩ := and_e hgs
  obtain ⟨w0, w1, rfl⟩ : ∃ w0 w1 : Value, args = #[w0, w1] := by
    have hs : args.size = 2 := by simpa [Cond.value, given_1] using hcount
    obtain ⟨L⟩ := args
    match L, hs with
    | [w0, w1], _ => exact ⟨w0, w1, rfl⟩
  have hw := fun d (hd : d ∈ tables_1) => atoms_spec (ws := Jvm.Cond.code x code maxLocals ret :: tables_1) hat d (List.mem_cons_of_mem _ hd)
  have hfit : Fit s := fun {y c} hc i hi => by
    obtain ⟨ha, rfl⟩ := Array.getElem?_eq_some_iff.mp hc
    have q := List.all_eq_true.mp ((Array.all_eq_true_iff_forall_mem.mp hF) _ (Array.getElem_mem ha)) i (List.mem_range.mpr hi)
    simpa [Array.getElem?_eq_getElem hi] using q
  obtain ⟨i0, ei0⟩ := is_v hg0
  obtain rfl : w0 = (.int i0) := Option.some.inj ei0
  obtain ⟨i1, ei1⟩ := is_v hgr0
  obtain rfl : w1 = (.int i1) := Option.some.inj ei1
  obtain ⟨c0, hr_0⟩ := and_e hn
  obtain ⟨c1, hr_1⟩ := and_e hr_0
  obtain ⟨c2, hr_2⟩ := and_e hr_1
  obtain ⟨c3, hr_3⟩ := and_e hr_2
  obtain ⟨c4, hr_4⟩ := and_e hr_3
  obtain ⟨c5, hr_5⟩ := and_e hr_4
  obtain ⟨c6, hr_6⟩ := and_e hr_5
  obtain ⟨c7, hr_7⟩ := and_e hr_6
  obtain ⟨c8, hr_8⟩ := and_e hr_7
  obtain ⟨c9, hr_9⟩ := and_e hr_8
  obtain ⟨c10, hr_10⟩ := and_e hr_9
  obtain ⟨c11, hr_11⟩ := and_e hr_10
  obtain ⟨c12, hr_12⟩ := and_e hr_11
  obtain ⟨c13, hr_13⟩ := and_e hr_12
  obtain ⟨c14, hr_14⟩ := and_e hr_13
  obtain ⟨c15, hr_15⟩ := and_e hr_14
  obtain ⟨c16, hr_16⟩ := and_e hr_15
  obtain ⟨c17, hr_17⟩ := and_e hr_16
  obtain ⟨c18, hr_18⟩ := and_e hr_17
  obtain ⟨c19, hr_19⟩ := and_e hr_18
  obtain ⟨c20, hr_20⟩ := and_e hr_19
  obtain ⟨c21, hr_21⟩ := and_e hr_20
  obtain ⟨c22, hr_22⟩ := and_e hr_21
  obtain ⟨c23, hr_23⟩ := and_e hr_22
  obtain ⟨c24, hr_24⟩ := and_e hr_23
  have c25 := hr_24
  obtain ⟨w, ev⟩ := arr_v c0
  have S_T : Sta s s.heap "com/example/bouncer/bouncer/http/Fields" "TOKEN_CHARACTERS" "[Z" (.ref w) := Sta.start ev (Or.inr ⟨(hw _ (List.mem_of_getElem? (i := 2) rfl)), (hw _ (List.mem_of_getElem? (i := 5) rfl))⟩)
  obtain ⟨cl, Ar⟩ := Arr.start ev c0
  obtain ⟨hS, -, hz⟩ := own_len ev Ar c1
  have ev' : ∀ idx, (Term.static "com/example/bouncer/bouncer/http/Fields" "TOKEN_CHARACTERS" "[Z").eval #[.int i0, .int i1] s none idx s = some (.ref w) := fun idx => by simpa [Term.eval] using ev
  have hS' : cl.slots.size = 128 := hS
  have hslots : ∀ i : Nat, i < 128 → cl.slots[i]? = some (.int (tabW i)) := by
    intro i hi
    have hi31 : i < 2 ^ 31 := by omega
    have hic : i < cl.slots.size := by omega
    by_cases g0 : i < 33
    · have e : tabW i = 0 := by simp only [tabW, if_pos g0]
      rw [e]
      exact own_all_a ev' Ar hz c2 i hic (own_ltl hi31 (by rw [show ((33 : Int32)).toInt = 33 from rfl]; omega))
    by_cases g1 : i < 34
    · have e : tabW i = 1 := by simp only [tabW, if_neg g0, if_pos g1]
      rw [e]
      obtain rfl : i = 33 := by omega
      exact own_elem (j := (33 : Int32)) ev Ar c3 (by decide)
    by_cases g2 : i < 35
    · have e : tabW i = 0 := by simp only [tabW, if_neg g0, if_neg g1, if_pos g2]
      rw [e]
      obtain rfl : i = 34 := by omega
      exact own_elem (j := (34 : Int32)) ev Ar c4 (by decide)
    by_cases g3 : i < 40
    · have e : tabW i = 1 := by simp only [tabW, if_neg g0, if_neg g1, if_neg g2, if_pos g3]
      rw [e]
      exact own_all_b ev' Ar hz c5 i hic (own_gel hi31 (by rw [show ((35 : Int32)).toInt = 35 from rfl]; omega)) (own_ltl hi31 (by rw [show ((40 : Int32)).toInt = 40 from rfl]; omega))
    by_cases g4 : i < 41
    · have e : tabW i = 0 := by simp only [tabW, if_neg g0, if_neg g1, if_neg g2, if_neg g3, if_pos g4]
      rw [e]
      obtain rfl : i = 40 := by omega
      exact own_elem (j := (40 : Int32)) ev Ar c6 (by decide)
    by_cases g5 : i < 42
    · have e : tabW i = 0 := by simp only [tabW, if_neg g0, if_neg g1, if_neg g2, if_neg g3, if_neg g4, if_pos g5]
      rw [e]
      obtain rfl : i = 41 := by omega
      exact own_elem (j := (41 : Int32)) ev Ar c7 (by decide)
    by_cases g6 : i < 43
    · have e : tabW i = 1 := by simp only [tabW, if_neg g0, if_neg g1, if_neg g2, if_neg g3, if_neg g4, if_neg g5, if_pos g6]
      rw [e]
      obtain rfl : i = 42 := by omega
      exact own_elem (j := (42 : Int32)) ev Ar c8 (by decide)
    by_cases g7 : i < 44
    · have e : tabW i = 1 := by simp only [tabW, if_neg g0, if_neg g1, if_neg g2, if_neg g3, if_neg g4, if_neg g5, if_neg g6, if_pos g7]
      rw [e]
      obtain rfl : i = 43 := by omega
      exact own_elem (j := (43 : Int32)) ev Ar c9 (by decide)
    by_cases g8 : i < 45
    · have e : tabW i = 0 := by simp only [tabW, if_neg g0, if_neg g1, if_neg g2, if_neg g3, if_neg g4, if_neg g5, if_neg g6, if_neg g7, if_pos g8]
      rw [e]
      obtain rfl : i = 44 := by omega
      exact own_elem (j := (44 : Int32)) ev Ar c10 (by decide)
    by_cases g9 : i < 46
    · have e : tabW i = 1 := by simp only [tabW, if_neg g0, if_neg g1, if_neg g2, if_neg g3, if_neg g4, if_neg g5, if_neg g6, if_neg g7, if_neg g8, if_pos g9]
      rw [e]
      obtain rfl : i = 45 := by omega
      exact own_elem (j := (45 : Int32)) ev Ar c11 (by decide)
    by_cases g10 : i < 47
    · have e : tabW i = 1 := by simp only [tabW, if_neg g0, if_neg g1, if_neg g2, if_neg g3, if_neg g4, if_neg g5, if_neg g6, if_neg g7, if_neg g8, if_neg g9, if_pos g10]
      rw [e]
      obtain rfl : i = 46 := by omega
      exact own_elem (j := (46 : Int32)) ev Ar c12 (by decide)
    by_cases g11 : i < 48
    · have e : tabW i = 0 := by simp only [tabW, if_neg g0, if_neg g1, if_neg g2, if_neg g3, if_neg g4, if_neg g5, if_neg g6, if_neg g7, if_neg g8, if_neg g9, if_neg g10, if_pos g11]
      rw [e]
      obtain rfl : i = 47 := by omega
      exact own_elem (j := (47 : Int32)) ev Ar c13 (by decide)
    by_cases g12 : i < 58
    · have e : tabW i = 1 := by simp only [tabW, if_neg g0, if_neg g1, if_neg g2, if_neg g3, if_neg g4, if_neg g5, if_neg g6, if_neg g7, if_neg g8, if_neg g9, if_neg g10, if_neg g11, if_pos g12]
      rw [e]
      exact own_all_b ev' Ar hz c14 i hic (own_gel hi31 (by rw [show ((48 : Int32)).toInt = 48 from rfl]; omega)) (own_ltl hi31 (by rw [show ((58 : Int32)).toInt = 58 from rfl]; omega))
    by_cases g13 : i < 65
    · have e : tabW i = 0 := by simp only [tabW, if_neg g0, if_neg g1, if_neg g2, if_neg g3, if_neg g4, if_neg g5, if_neg g6, if_neg g7, if_neg g8, if_neg g9, if_neg g10, if_neg g11, if_neg g12, if_pos g13]
      rw [e]
      exact own_all_b ev' Ar hz c15 i hic (own_gel hi31 (by rw [show ((58 : Int32)).toInt = 58 from rfl]; omega)) (own_ltl hi31 (by rw [show ((65 : Int32)).toInt = 65 from rfl]; omega))
    by_cases g14 : i < 91
    · have e : tabW i = 1 := by simp only [tabW, if_neg g0, if_neg g1, if_neg g2, if_neg g3, if_neg g4, if_neg g5, if_neg g6, if_neg g7, if_neg g8, if_neg g9, if_neg g10, if_neg g11, if_neg g12, if_neg g13, if_pos g14]
      rw [e]
      exact own_all_b ev' Ar hz c16 i hic (own_gel hi31 (by rw [show ((65 : Int32)).toInt = 65 from rfl]; omega)) (own_ltl hi31 (by rw [show ((91 : Int32)).toInt = 91 from rfl]; omega))
    by_cases g15 : i < 92
    · have e : tabW i = 0 := by simp only [tabW, if_neg g0, if_neg g1, if_neg g2, if_neg g3, if_neg g4, if_neg g5, if_neg g6, if_neg g7, if_neg g8, if_neg g9, if_neg g10, if_neg g11, if_neg g12, if_neg g13, if_neg g14, if_pos g15]
      rw [e]
      obtain rfl : i = 91 := by omega
      exact own_elem (j := (91 : Int32)) ev Ar c17 (by decide)
    by_cases g16 : i < 93
    · have e : tabW i = 0 := by simp only [tabW, if_neg g0, if_neg g1, if_neg g2, if_neg g3, if_neg g4, if_neg g5, if_neg g6, if_neg g7, if_neg g8, if_neg g9, if_neg g10, if_neg g11, if_neg g12, if_neg g13, if_neg g14, if_neg g15, if_pos g16]
      rw [e]
      obtain rfl : i = 92 := by omega
      exact own_elem (j := (92 : Int32)) ev Ar c18 (by decide)
    by_cases g17 : i < 94
    · have e : tabW i = 0 := by simp only [tabW, if_neg g0, if_neg g1, if_neg g2, if_neg g3, if_neg g4, if_neg g5, if_neg g6, if_neg g7, if_neg g8, if_neg g9, if_neg g10, if_neg g11, if_neg g12, if_neg g13, if_neg g14, if_neg g15, if_neg g16, if_pos g17]
      rw [e]
      obtain rfl : i = 93 := by omega
      exact own_elem (j := (93 : Int32)) ev Ar c19 (by decide)
    by_cases g18 : i < 123
    · have e : tabW i = 1 := by simp only [tabW, if_neg g0, if_neg g1, if_neg g2, if_neg g3, if_neg g4, if_neg g5, if_neg g6, if_neg g7, if_neg g8, if_neg g9, if_neg g10, if_neg g11, if_neg g12, if_neg g13, if_neg g14, if_neg g15, if_neg g16, if_neg g17, if_pos g18]
      rw [e]
      exact own_all_b ev' Ar hz c20 i hic (own_gel hi31 (by rw [show ((94 : Int32)).toInt = 94 from rfl]; omega)) (own_ltl hi31 (by rw [show ((123 : Int32)).toInt = 123 from rfl]; omega))
    by_cases g19 : i < 124
    · have e : tabW i = 0 := by simp only [tabW, if_neg g0, if_neg g1, if_neg g2, if_neg g3, if_neg g4, if_neg g5, if_neg g6, if_neg g7, if_neg g8, if_neg g9, if_neg g10, if_neg g11, if_neg g12, if_neg g13, if_neg g14, if_neg g15, if_neg g16, if_neg g17, if_neg g18, if_pos g19]
      rw [e]
      obtain rfl : i = 123 := by omega
      exact own_elem (j := (123 : Int32)) ev Ar c21 (by decide)
    by_cases g20 : i < 125
    · have e : tabW i = 1 := by simp only [tabW, if_neg g0, if_neg g1, if_neg g2, if_neg g3, if_neg g4, if_neg g5, if_neg g6, if_neg g7, if_neg g8, if_neg g9, if_neg g10, if_neg g11, if_neg g12, if_neg g13, if_neg g14, if_neg g15, if_neg g16, if_neg g17, if_neg g18, if_neg g19, if_pos g20]
      rw [e]
      obtain rfl : i = 124 := by omega
      exact own_elem (j := (124 : Int32)) ev Ar c22 (by decide)
    by_cases g21 : i < 126
    · have e : tabW i = 0 := by simp only [tabW, if_neg g0, if_neg g1, if_neg g2, if_neg g3, if_neg g4, if_neg g5, if_neg g6, if_neg g7, if_neg g8, if_neg g9, if_neg g10, if_neg g11, if_neg g12, if_neg g13, if_neg g14, if_neg g15, if_neg g16, if_neg g17, if_neg g18, if_neg g19, if_neg g20, if_pos g21]
      rw [e]
      obtain rfl : i = 125 := by omega
      exact own_elem (j := (125 : Int32)) ev Ar c23 (by decide)
    by_cases g22 : i < 127
    · have e : tabW i = 1 := by simp only [tabW, if_neg g0, if_neg g1, if_neg g2, if_neg g3, if_neg g4, if_neg g5, if_neg g6, if_neg g7, if_neg g8, if_neg g9, if_neg g10, if_neg g11, if_neg g12, if_neg g13, if_neg g14, if_neg g15, if_neg g16, if_neg g17, if_neg g18, if_neg g19, if_neg g20, if_neg g21, if_pos g22]
      rw [e]
      obtain rfl : i = 126 := by omega
      exact own_elem (j := (126 : Int32)) ev Ar c24 (by decide)
    have e : tabW i = 0 := by simp only [tabW, if_neg g0, if_neg g1, if_neg g2, if_neg g3, if_neg g4, if_neg g5, if_neg g6, if_neg g7, if_neg g8, if_neg g9, if_neg g10, if_neg g11, if_neg g12, if_neg g13, if_neg g14, if_neg g15, if_neg g16, if_neg g17, if_neg g18, if_neg g19, if_neg g20, if_neg g21, if_neg g22]
    rw [e]
    obtain rfl : i = 127 := by omega
    exact own_elem (j := (127 : Int32)) ev Ar c25 (by decide)
  have htab : ∀ c : Int32, ¬ c < 0 → c < 128 → cl.slots[c.toNatClampNeg]? = some (.int (tcharW c)) := by
    intro c h0 h1
    have hb := back32 h0
    have hlt : c.toNatClampNeg < 128 := by
      have q := h1
      rw [Int32.lt_iff_toInt_lt, show (128 : Int32).toInt = 128 from rfl] at q
      show c.toInt.toNat < 128
      omega
    rw [hslots _ hlt, own_tab _ hlt, hb.1]
  obtain ⟨n, o, h1, h2, h3, _, L, rfl, ⟨rfl, N⟩, hq⟩ := rm0 l s _ hw tables_1 i0 i1 w cl s.heap s.heap.size (Nat.le_refl _) S_T Ar hS htab p e ha hc hk s m _ below hf ((Spec.applies_iff_loose hf).mp happ).1 ⟨rfl, State.Warmed39.refl s, rfl⟩ trivial
  refine ⟨n, _, h1, h2, h3, hpost _ _ _ _ _ _ ⟨Cond.after_iff.mpr rfl, Cond.after_iff.mpr (eq_i res_at (Term.int_eval (1)) rfl), trivial⟩ ⟨hq.1, hq.2.1, (hq.2.2.sift fun y hy => Or.inr (N y hy)).mono (by decide) (by decide)⟩⟩
theorem main_1_1 : Claimed_1_1 := comes_1 fun _ _ _ _ _ _ h hF => ⟨h.1, hF⟩
theorem main_1_2 : Claimed_1_2 := comes_1 fun _ _ _ _ _ _ h hF => ⟨h.2.1, hF⟩
end Jvm.Pilot.@@N@@
namespace Jvm.Pilot.@@N@@
open Jvm Jvm.ClassFile Sem Op Lib Jvm.Free Jvm.Stand Jvm.Pilot.@@N@@.Jvm.D
/-! MADE BY PROGRAM (witnessworld.py) out of the Statement's table words and the real class files: 11 classes; the members and pool entries that the words name. The judged class is class 1, her method 1. -/
namespace start1
open Jvm.ClassFile
def u (s : String) : CpInfo := .utf8 (stringToUtf16 s)
/-- a pool by its gaps: so many unusable entries, then the entry; so many at the end -/
def gap : Nat → List CpInfo → List CpInfo
  | 0, r => r
  | n + 1, r => .unusable :: gap n r
def poolList (es : List (Nat × CpInfo)) (last : Nat) : List CpInfo := es.foldr (fun e r => gap e.1 (e.2 :: r)) (gap last [])
def pool (es : List (Nat × CpInfo)) (last : Nat) : Array CpInfo := ⟨poolList es last⟩
def fileOf (pool : Array CpInfo) (this : Nat) (attrs : Array Attribute := #[]) (ms : Array MethodInfo := #[]) (fl : Nat := 33) (sup : Nat := 0) (ifs : Array Nat := #[]) (fds : Array FieldInfo := #[]) : ClassFile where
  minorVersion := 0
  majorVersion := 65
  constantPool := pool
  accessFlags := fl
  thisClass := this
  superClass := sup
  interfaces := ifs
  fields := fds
  methods := ms
  attributes := attrs
def plain (name : String) (sup : Option ClassId) : Class where
  name := name
  kind := .ordinary
  loader := none
  accessFlags := 33
  super := sup
  interfaces := #[]
  cf := none
  fields := #[]
  methods := #[]
  instanceTypes := #[]
  staticTypes := #[]
  resolved := #[]
  callSites := []
  init := .initialized
  statics := none
  mirror := none

def pool0 : Array CpInfo := pool [(5, u "<init>"), (0, u "()V"), (1, .class_ 10), (1, u "java/lang/Object")] 113

def k0m0 : Method := { name := "<init>", desc := "()V", sig := { parameters := [], returnType := none }, accessFlags := 1, code := none }
/-- java/lang/Object -/
def k0 : Class := { plain "java/lang/Object" none with
  accessFlags := 33
  interfaces := #[]
  cf := some (fileOf pool0 8 #[] #[{ accessFlags := 1, nameIndex := 5, descriptorIndex := 6, attributes := #[] }] 33 0 #[] #[])
  fields := #[]
  methods := #[k0m0]
  instanceTypes := #[]
  staticTypes := #[]
  resolved := Array.replicate 124 none
  statics := none }

def pool1 : Array CpInfo := pool [(2, .class_ 4), (1, u "java/lang/Object"), (0, u "<init>"), (0, u "()V"), (0, .methodref 8 9), (0, .class_ 10), (0, .nameAndType 11 12), (0, u "com/example/bouncer/bouncer/http/Fields"), (0, u "isTokenCharacter"), (0, u "(C)Z"), (0, .methodref 14 15), (0, .class_ 16), (0, .nameAndType 17 12), (0, u "com/example/bouncer/bouncer/http/FieldsIsTokenCharacterPinLaw"), (0, u "tchar"), (2, u "law"), (0, u "(II)Z")] 3

def k1m0 : Method := { name := "<init>", desc := "()V", sig := { parameters := [], returnType := none }, accessFlags := 2, code := none }
def k1c1 : Code := { maxStack := 2, maxLocals := 3, code := code, exceptionTable := #[], attributes := #[] }
def k1m1 : Method := { name := "law", desc := "(II)Z", sig := { parameters := [.int, .int], returnType := some .boolean }, accessFlags := 9, code := some k1c1 }
def k1c2 : Code := { maxStack := 2, maxLocals := 1, code := method_3_code, exceptionTable := #[], attributes := #[] }
def k1m2 : Method := { name := "tchar", desc := "(C)Z", sig := { parameters := [.char], returnType := some .boolean }, accessFlags := 10, code := some k1c2 }
/-- com/example/bouncer/bouncer/http/FieldsIsTokenCharacterPinLaw -/
def k1 : Class := { plain "com/example/bouncer/bouncer/http/FieldsIsTokenCharacterPinLaw" (some 0) with
  accessFlags := 49
  interfaces := #[]
  cf := some (fileOf pool1 14 #[] #[{ accessFlags := 2, nameIndex := 5, descriptorIndex := 6, attributes := #[] }, { accessFlags := 9, nameIndex := 20, descriptorIndex := 21, attributes := #[] }, { accessFlags := 10, nameIndex := 17, descriptorIndex := 12, attributes := #[] }] 49 2 #[] #[])
  fields := #[]
  methods := #[k1m0, k1m1, k1m2]
  instanceTypes := #[]
  staticTypes := #[]
  resolved := Array.replicate 25 none
  statics := none }

def pool2 : Array CpInfo := pool [(2, .class_ 4), (1, u "java/lang/Object"), (0, u "<init>"), (0, u "()V"), (41, .class_ 50), (1, u "com/example/bouncer/bouncer/http/Fields"), (0, u "DATE"), (0, u "Ljava/time/format/DateTimeFormatter;"), (22, u "(C)Z"), (23, u "isTokenCharacter"), (40, .fieldref 48 141), (0, .nameAndType 142 143), (0, u "TOKEN_CHARACTERS"), (0, u "[Z"), (6, u "NAME_CHARACTERS"), (66, .class_ 218), (0, u "com/example/bouncer/bouncer/http/Fields$Names"), (53, u "COMMON"), (0, u "Lcom/example/bouncer/bouncer/http/Fields$Names;"), (0, u "MAX_LENGTH_DIGITS"), (0, u "I"), (2, u "CASE_BIT"), (1, u "IPV6_GROUPS")] 32

def k2m0 : Method := { name := "<init>", desc := "()V", sig := { parameters := [], returnType := none }, accessFlags := 2, code := none }
def k2c1 : Code := { maxStack := 2, maxLocals := 1, code := prog_17_method_18_code, exceptionTable := #[], attributes := #[] }
def k2m1 : Method := { name := "isTokenCharacter", desc := "(C)Z", sig := { parameters := [.char], returnType := some .boolean }, accessFlags := 8, code := some k2c1 }
/-- com/example/bouncer/bouncer/http/Fields -/
def k2 : Class := { plain "com/example/bouncer/bouncer/http/Fields" (some 0) with
  accessFlags := 48
  interfaces := #[]
  cf := some (fileOf pool2 48 #[.nestMembers #[217]] #[{ accessFlags := 2, nameIndex := 5, descriptorIndex := 6, attributes := #[] }, { accessFlags := 8, nameIndex := 99, descriptorIndex := 75, attributes := #[] }] 48 2 #[] #[{ accessFlags := 26, nameIndex := 274, descriptorIndex := 275, attributes := #[] }, { accessFlags := 26, nameIndex := 278, descriptorIndex := 275, attributes := #[] }, { accessFlags := 26, nameIndex := 142, descriptorIndex := 143, attributes := #[] }, { accessFlags := 26, nameIndex := 150, descriptorIndex := 143, attributes := #[] }, { accessFlags := 26, nameIndex := 280, descriptorIndex := 275, attributes := #[] }, { accessFlags := 26, nameIndex := 51, descriptorIndex := 52, attributes := #[] }, { accessFlags := 24, nameIndex := 272, descriptorIndex := 273, attributes := #[] }])
  fields := #[{ name := "MAX_LENGTH_DIGITS", type := .int, accessFlags := 26, slot := 0, constantValue := 0 }, { name := "CASE_BIT", type := .int, accessFlags := 26, slot := 1, constantValue := 0 }, { name := "TOKEN_CHARACTERS", type := (.array .boolean), accessFlags := 26, slot := 2, constantValue := 0 }, { name := "NAME_CHARACTERS", type := (.array .boolean), accessFlags := 26, slot := 3, constantValue := 0 }, { name := "IPV6_GROUPS", type := .int, accessFlags := 26, slot := 4, constantValue := 0 }, { name := "DATE", type := (.object "java/time/format/DateTimeFormatter"), accessFlags := 26, slot := 5, constantValue := 0 }, { name := "COMMON", type := (.object "com/example/bouncer/bouncer/http/Fields$Names"), accessFlags := 24, slot := 6, constantValue := 0 }]
  methods := #[k2m0, k2m1]
  instanceTypes := #[]
  staticTypes := #[.int, .int, (.array .boolean), (.array .boolean), .int, (.object "java/time/format/DateTimeFormatter"), (.object "com/example/bouncer/bouncer/http/Fields$Names")]
  resolved := Array.replicate 313 none
  statics := some 0 }

def pool3 : Array CpInfo := pool [(1, u "java/lang/Cloneable"), (0, .class_ 1), (0, u "java/lang/Object"), (0, .class_ 3)] 3

/-- java/lang/Cloneable -/
def k3 : Class := { plain "java/lang/Cloneable" (some 0) with
  accessFlags := 1537
  interfaces := #[]
  cf := some (fileOf pool3 2 #[] #[] 1537 4 #[] #[])
  fields := #[]
  methods := #[]
  instanceTypes := #[]
  staticTypes := #[]
  resolved := Array.replicate 8 none
  statics := none }

def pool4 : Array CpInfo := pool [(1, u "java/io/Serializable"), (0, .class_ 1), (0, u "java/lang/Object"), (0, .class_ 3)] 3

/-- java/io/Serializable -/
def k4 : Class := { plain "java/io/Serializable" (some 0) with
  accessFlags := 1537
  interfaces := #[]
  cf := some (fileOf pool4 2 #[] #[] 1537 4 #[] #[])
  fields := #[]
  methods := #[]
  instanceTypes := #[]
  staticTypes := #[]
  resolved := Array.replicate 8 none
  statics := none }

/-- the primitive boolean -/
def k5 : Class := { plain "boolean" none with kind := .primitive 'Z', accessFlags := 0x411 }
/-- [Z -/
def k6 : Class := { plain "[Z" (some 0) with kind := .array 5 .boolean, interfaces := #[3, 4], accessFlags := 1041 }

/-- the primitive byte -/
def k7 : Class := { plain "byte" none with kind := .primitive 'B', accessFlags := 0x411 }
/-- [B -/
def k8 : Class := { plain "[B" (some 0) with kind := .array 7 .byte, interfaces := #[3, 4], accessFlags := 1041 }

/-- the primitive int -/
def k9 : Class := { plain "int" none with kind := .primitive 'I', accessFlags := 0x411 }
/-- [I -/
def k10 : Class := { plain "[I" (some 0) with kind := .array 9 .int, interfaces := #[3, 4], accessFlags := 1041 }

def heap : Heap := #[{ cls := 2, slots := #[.int 0, .int 0, .ref 1, .null, .int 0, .null, .null], vm := .statics 2 },
  { cls := 6, slots := #[.int 0, .int 0, .int 0, .int 0, .int 0, .int 0, .int 0, .int 0, .int 0, .int 0, .int 0, .int 0, .int 0, .int 0, .int 0, .int 0, .int 0, .int 0, .int 0, .int 0, .int 0, .int 0, .int 0, .int 0, .int 0, .int 0, .int 0, .int 0, .int 0, .int 0, .int 0, .int 0, .int 0, .int 1, .int 0, .int 1, .int 1, .int 1, .int 1, .int 1, .int 0, .int 0, .int 1, .int 1, .int 0, .int 1, .int 1, .int 0, .int 1, .int 1, .int 1, .int 1, .int 1, .int 1, .int 1, .int 1, .int 1, .int 1, .int 0, .int 0, .int 0, .int 0, .int 0, .int 0, .int 0, .int 1, .int 1, .int 1, .int 1, .int 1, .int 1, .int 1, .int 1, .int 1, .int 1, .int 1, .int 1, .int 1, .int 1, .int 1, .int 1, .int 1, .int 1, .int 1, .int 1, .int 1, .int 1, .int 1, .int 1, .int 1, .int 1, .int 0, .int 0, .int 0, .int 1, .int 1, .int 1, .int 1, .int 1, .int 1, .int 1, .int 1, .int 1, .int 1, .int 1, .int 1, .int 1, .int 1, .int 1, .int 1, .int 1, .int 1, .int 1, .int 1, .int 1, .int 1, .int 1, .int 1, .int 1, .int 1, .int 1, .int 1, .int 1, .int 0, .int 1, .int 0, .int 1, .int 0], vm := .none }]
def classes : Array Class := #[k0, k1, k2, k3, k4, k5, k6, k7, k8, k9, k10]
def interned : List (Array UInt16 × Addr) := []
def slotsUsed : Nat := 135
def theMethod : MethodId := ⟨1, 1⟩
def args0 : Array Value := #[.int 5, .int 6]
def aboutOver (below : List Frame) : State where
  vm := { classes := classes, interned := interned.toArray }
  heap := heap
  slotsUsed := slotsUsed
  threads := #[{ frames := .invoking theMethod args0 :: below }]
def below0 : List Frame := [.native { method := ⟨0, 0⟩, args := #[] }]
def about1 : State := aboutOver below0
def p0 : Program := .bare "" "" ""
def e0 : Env := launch0.env 0 0 0
theorem w_frames : about1.frames = Frame.invoking theMethod args0 :: below0 := rfl
set_option maxRecDepth 65536 in
theorem w_args : argsFit about1.vm theMethod args0 = true := by decide +kernel
set_option maxRecDepth 65536 in
theorem w_heap : heapFits about1 = true := by decide +kernel
set_option maxRecDepth 65536 in
theorem w_runnable : about1.curStatus? = some .runnable := by decide +kernel
set_option maxRecDepth 65536 in
theorem w_alone : about1.alone = true := by decide +kernel
set_option maxRecDepth 65536 in
theorem w_named : about1.methodNamed? x = some theMethod := by decide +kernel
set_option maxRecDepth 65536 in
theorem w_hears : about1.hears theMethod below0 = true := by decide +kernel
set_option maxRecDepth 65536 in
theorem w_ripe : about1.ripe theMethod args0 below0 = true := by decide +kernel
theorem w_running : about1.status = .running := rfl
set_option maxRecDepth 65536 in
theorem w_room : about1.hasRoom e0.platform room_1 = true :=
  launch0.hasRoom_least _ room_1 (by decide +kernel) (by decide +kernel) (by decide +kernel) (by decide +kernel) (by decide +kernel) (by decide +kernel)
theorem allAtoms_all (ts : List Jvm.Cond) (a : Array Jvm.Value) (st : Jvm.State) : (allAtoms ts).before a st = ts.all (fun c => c.before a st) := by
  induction ts with
  | nil => rfl
  | cons c t ih =>
    show (Jvm.Cond.and c (allAtoms t)).before a st = _
    rw [Jvm.Cond.before_and, ih, List.all_cons]
def words1 : List Jvm.Cond := Jvm.Cond.code x code maxLocals ret :: tables_1
/-- a 'code' word, met by the world's own term for the bytes: nothing is compared byte by byte -/
theorem code_word {y : MethodName} {bytes : ByteArray} {mx : Nat} {rt : Option FieldType} {a : Array Value} {s : State} {m : MethodId} {meth : Method} {c : Code} (h1 : s.methodNamed? y = some m) (h2 : s.vm.method? m = some meth) (h3 : meth.code = some c) (h4 : c.code = bytes)
    (h5 : (c.maxLocals == mx && c.exceptionTable.isEmpty && decide (c.maxStack ≤ mostOperands) && decide (meth.sig.returnType = rt) && !meth.locks && decide (parseMethodDescriptor y.desc = some meth.sig)) = true) : (Jvm.Cond.code y bytes mx rt).before a s = true := by
  simp only [Bool.and_eq_true, beq_iff_eq, Bool.not_eq_true', decide_eq_true_eq] at h5
  obtain ⟨⟨⟨⟨⟨g1, g2⟩, g3⟩, g4⟩, g5⟩, g6⟩ := h5
  simp [Cond.before, Cond.holds, Cond.value, h1, h2, h3, h4, g1, g2, g3, g4, g5, g6]
def isCode : Jvm.Cond → Bool
  | .code _ _ _ _ => true
  | _ => false
theorem all_split {L : List Jvm.Cond} {P : Jvm.Cond → Bool} (h1 : L.all (fun c => isCode c || P c) = true) (h2 : ∀ c ∈ L.filter isCode, P c = true) : L.all P = true := by
  refine List.all_eq_true.mpr fun c hc => ?_
  have h := List.all_eq_true.mp h1 c hc
  rcases Bool.eq_false_or_eq_true (isCode c) with hi | hi
  · exact h2 c (List.mem_filter.mpr ⟨hc, hi⟩)
  · simpa [hi] using h
set_option maxRecDepth 65536 in
theorem w_c0 : (Jvm.Cond.code x code maxLocals ret).before args0 about1 = true := code_word (m := ⟨1, 1⟩) (meth := k1m1) (c := k1c1) (by decide +kernel) rfl rfl rfl (by decide +kernel)
set_option maxRecDepth 65536 in
theorem w_c1 : (Jvm.Cond.code ({ cls := "com/example/bouncer/bouncer/http/Fields", name := "isTokenCharacter", desc := "(C)Z" } : Jvm.MethodName) prog_17_method_18_code (1 : Nat) (Option.some Jvm.ClassFile.FieldType.boolean)).before args0 about1 = true := code_word (m := ⟨2, 1⟩) (meth := k2m1) (c := k2c1) (by decide +kernel) rfl rfl rfl (by decide +kernel)
set_option maxRecDepth 65536 in
theorem w_c2 : (Jvm.Cond.code ({ cls := "com/example/bouncer/bouncer/http/FieldsIsTokenCharacterPinLaw", name := "tchar", desc := "(C)Z" } : Jvm.MethodName) method_3_code (1 : Nat) (Option.some Jvm.ClassFile.FieldType.boolean)).before args0 about1 = true := code_word (m := ⟨1, 2⟩) (meth := k1m2) (c := k1c2) (by decide +kernel) rfl rfl rfl (by decide +kernel)
def codes1 : List Jvm.Cond := [Jvm.Cond.code x code maxLocals ret, Jvm.Cond.code ({ cls := "com/example/bouncer/bouncer/http/Fields", name := "isTokenCharacter", desc := "(C)Z" } : Jvm.MethodName) prog_17_method_18_code (1 : Nat) (Option.some Jvm.ClassFile.FieldType.boolean), Jvm.Cond.code ({ cls := "com/example/bouncer/bouncer/http/FieldsIsTokenCharacterPinLaw", name := "tchar", desc := "(C)Z" } : Jvm.MethodName) method_3_code (1 : Nat) (Option.some Jvm.ClassFile.FieldType.boolean)]
set_option maxRecDepth 65536 in
theorem codes_eq : words1.filter isCode = codes1 := rfl
theorem w_codes : ∀ c ∈ words1.filter isCode, c.before args0 about1 = true := by
  rw [codes_eq]
  intro c hc
  simp only [codes1, List.mem_cons, List.not_mem_nil, or_false] at hc
  rcases hc with rfl | rfl | rfl
  · exact w_c0
  · exact w_c1
  · exact w_c2
set_option maxRecDepth 65536 in
theorem w_t1 : words1.all (fun c => isCode c || c.before args0 about1) = true := by decide +kernel
theorem w_tables : (allAtoms (Jvm.Cond.code x code maxLocals ret :: tables_1)).before args0 about1 = true := by
  rw [allAtoms_all]
  show words1.all (fun c => c.before args0 about1) = true
  refine all_split ?_ w_codes
  rw [w_t1]
set_option maxRecDepth 65536 in
theorem w_case : (Jvm.Cond.and given_1 narrow_1).before args0 about1 = true := by decide +kernel
theorem w_applies : (headSpec (Jvm.Cond.code x code maxLocals ret :: tables_1) room_1).applies x e0.platform about1 = true :=
  (Spec.applies_iff w_frames).mpr ⟨w_running, w_runnable, w_alone, w_named, w_hears, w_ripe, w_room, w_tables⟩
theorem atStart : AtStart classFile x code maxLocals ret World_1 tables_1 room_1 Calls_1 rest_1 Pre_1 launch0 p0 e0 about1 theMethod args0 below0 :=
  ⟨lists_1, trivial, launch0.admits_env _ _ _, launch0.least_env, fairChoices_fair.cas, fairChoices_fair.clock, w_frames, w_args, w_heap, w_applies, trivial, trivial, w_case⟩
end start1
theorem witness_1 : WitnessClaimed_1 := ⟨start1.p0, start1.e0, start1.about1, start1.theMethod, start1.args0, start1.below0, start1.atStart⟩
end Jvm.Pilot.@@N@@

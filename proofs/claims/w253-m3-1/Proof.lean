import JvmDerived
import JvmDerived.Pilot.@@N@@Statement
import JvmDerived.Pilot.@@N@@Code
set_option linter.unusedVariables false
set_option linter.unusedSimpArgs false
@@BLOCK:NumsL.lean.txt@@
namespace Jvm.RoadKit
open Sem ClassFile Op Lib Jvm.Stand Jvm.Free Jvm.LawKit
section New
variable {p : Program} {l : Launch} {e : Env} {R : Room} {s : State} {m : MethodId} {args : Array Value} {below : List Frame} {meth : Method} {c : Code} {T : State} {locs : List Loc} {cells slots : Nat}
theorem retI (X : Stand p l e R s m args below meth c T locs cells slots) (hx : p.tables.exec = Jvm.exec) {pc : Nat} {Ls : Array Slot} {z : Int32} {rest : List Value} (hret : meth.sig.returnType = some .int) (hd : decode c.code pc = .ok (.ireturn, 1)) {fs : List Frame}
    (hl : ∀ (f : JFrame) (acts : List Action), f.method = m → f.locked = none → f.entered = [] → (doReturn e (T.setTop f) acts (some (.int z))).1 = T.setFrames fs) : Steps p.tables e below (T.setTop (mkF m pc Ls (.int z :: rest))) (T.setFrames fs) := by
  have hm' : T.vm.method? m = some meth := X.method'
  have hn : narrow .int (.int z) = .int z := rfl
  show Steps p.tables e below (T.setTop { method := m, pc := pc, locals := Ls, stack := _ :: rest, locked := none }) _
  jvm_step X.here [X.here.top, hx, hd, hm', hret, hn]
  first | (intro acts; rw [hl _ acts rfl rfl rfl]) | rw [hl _ _ rfl rfl rfl]
  exact Steps.refl _
end New
end Jvm.RoadKit
namespace Jvm.Pilot.@@N@@
open Jvm Jvm.ClassFile Sem Op Lib Jvm.Free Jvm.Stand Jvm.LawKit Jvm.RoadKit Bundle Jvm.Pilot.@@N@@.Jvm.D
theorem own_eqint {args : Array Value} {first s : State} {o : Option Outcome} {idx : List Nat} {t : Term} {k : Int32} (h : (Jvm.Cond.eq t (.int k)).value args first o s idx = some true) : t.eval args first o idx s = some (.int k) := by
  obtain ⟨x, y, hx, hy, hk, hk'⟩ := cmp_v (Or.inl h)
  have ey : y = .int k := (Option.some.inj ((Term.int_eval k).symm.trans hy)).symm
  subst ey
  obtain ⟨z, rfl⟩ := hk'
  have hv : (Jvm.Cond.eq t (.int k)).value args first o s idx = some (decide (z = k)) := by simp [Cond.value, hx, hy]
  have := gotT hv h
  rw [hx, this]
theorem own_eqref {args : Array Value} {first s : State} {o : Option Outcome} {idx : List Nat} {t u : Term} {v : Value} (h : (Jvm.Cond.eq t u).value args first o s idx = some true) (hu : u.eval args first o idx s = some v) (hv : v.isRef = true) : t.eval args first o idx s = some v := by
  obtain ⟨x, y, hx, hy, hk, hk'⟩ := cmp_v (Or.inl h)
  have ey : y = v := Option.some.inj (hy.symm.trans hu)
  subst ey
  have hxr : x.isRef = true := by cases y <;> simp [Value.isRef] at hv <;> exact hk'.2
  have := gotT (eq_R hx hy hxr hv) h
  rw [hx, this]
theorem own_fld {args : Array Value} {s : State} {t : Term} {C n d : String} {k : Int32} {a : Addr} (ht : t.eval args s none [] s = some (.ref a)) (h : (Jvm.Cond.eq (.field t C n d) (.int k)).value args s none s [] = some true) : Fld s s.heap a C n d (.int k) := Fld.start ((fld_at ht).symm.trans (own_eqint h))
theorem own_fld_inj {Z : State} {h : Heap} {a : Addr} {C n d : String} {v w : Value} (F : Fld Z h a C n d v) (G : Fld Z h a C n d w) : v = w := by
  obtain ⟨c1, cf1, k1, i1, f1, h1, h2, -, -, -, -, h3⟩ := F
  obtain ⟨c2, cf2, k2, i2, f2, g1, g2, -, -, -, -, g3⟩ := G
  rw [h1] at g1; cases g1
  rw [h2] at g2; cases g2
  exact Option.some.inj (h3.symm.trans g3)
theorem own_ne {Z : State} {h : Heap} {a b : Addr} {C n d : String} {i j : Int32} (F : Fld Z h a C n d (.int i)) (G : Fld Z h b C n d (.int j)) (hij : ¬ i = j) : ¬ a = b := fun e => by
  subst e
  exact hij (Value.int.inj (own_fld_inj F G))
theorem own_keep_ext {h h' : Heap} (K : Keep h h' []) : Ext h h' := ⟨K.1, fun a c q => K.2.1 a c q nin0⟩
theorem own_sta_keep {Z : State} {h h' : Heap} {C n d C' : String} {v : Value} {b : Addr} (F : Sta Z h C n d v) (K : Keep h h' [b]) (E : Exa Z h b C') : Sta Z h' C n d v := by
  obtain ⟨cf, i, k, f, st, cell, h1, h2, h3, h4, h5, h6, h7⟩ := F
  obtain ⟨cell', k', g1, g2, g3, g4, g5⟩ := E
  refine ⟨cf, i, k, f, st, cell, h1, h2, h3, h4, K.2.1 st cell h5 (ninS (fun q => ?_) nin0), h6, h7⟩
  subst q
  rw [h5] at g1; cases g1
  rw [h6] at g4; cases g4
def pickA (k : Int32) (w : Nat → Addr) : Addr := if k = (0 : Int32) then w 0 else if k = (1 : Int32) then w 1 else if k = (2 : Int32) then w 2 else if k = (3 : Int32) then w 3 else if k = (4 : Int32) then w 4 else if k = (5 : Int32) then w 5 else if k = (6 : Int32) then w 6 else if k = (7 : Int32) then w 7 else if k = (8 : Int32) then w 8 else if k = (9 : Int32) then w 9 else if k = (10 : Int32) then w 10 else if k = (11 : Int32) then w 11 else if k = (12 : Int32) then w 12 else if k = (13 : Int32) then w 13 else if k = (14 : Int32) then w 14 else w 15
def betw (a : Addr) (w : Nat → Addr) : Int32 := if a = w 11 then 1 else if a = w 13 then 1 else if a = w 14 then 1 else 0
def expd (k : Int32) : Int32 := if k = (11 : Int32) then 1 else if k = (13 : Int32) then 1 else if k = (14 : Int32) then 1 else 0
theorem own_rem (x : Int32) (m : Int32) (n : Int) (hm : m.toInt = n) (hn : 0 < n) : 0 ≤ ((x &&& (2147483647 : Int32)) % m).toInt ∧ ((x &&& (2147483647 : Int32)) % m).toInt < n := by
  have e1 : (x &&& (2147483647 : Int32)).toInt = x.toInt % 2 ^ 31 := Jvm.Kit.i32_mask x 2147483647 (k := 31) (by decide) (by decide)
  have h0 : 0 ≤ (x &&& (2147483647 : Int32)).toInt := by rw [e1]; omega
  rw [(c_irem _ m n hm).1 h0]
  exact ⟨Int.emod_nonneg _ (by omega), Int.emod_lt_of_pos _ hn⟩
theorem own_cases16 {k : Int32} (h0 : 0 ≤ k.toInt) (h1 : k.toInt < 16) : k = (0 : Int32) ∨ k = (1 : Int32) ∨ k = (2 : Int32) ∨ k = (3 : Int32) ∨ k = (4 : Int32) ∨ k = (5 : Int32) ∨ k = (6 : Int32) ∨ k = (7 : Int32) ∨ k = (8 : Int32) ∨ k = (9 : Int32) ∨ k = (10 : Int32) ∨ k = (11 : Int32) ∨ k = (12 : Int32) ∨ k = (13 : Int32) ∨ k = (14 : Int32) ∨ k = (15 : Int32) := by
  have h : k.toInt = 0 ∨ k.toInt = 1 ∨ k.toInt = 2 ∨ k.toInt = 3 ∨ k.toInt = 4 ∨ k.toInt = 5 ∨ k.toInt = 6 ∨ k.toInt = 7 ∨ k.toInt = 8 ∨ k.toInt = 9 ∨ k.toInt = 10 ∨ k.toInt = 11 ∨ k.toInt = 12 ∨ k.toInt = 13 ∨ k.toInt = 14 ∨ k.toInt = 15 := by omega
  rcases h with h | h | h | h | h | h | h | h | h | h | h | h | h | h | h | h
  · exact Or.inl (Int32.toInt_inj.mp (by rw [h]; rfl))
  · exact Or.inr (Or.inl (Int32.toInt_inj.mp (by rw [h]; rfl)))
  · exact Or.inr (Or.inr (Or.inl (Int32.toInt_inj.mp (by rw [h]; rfl))))
  · exact Or.inr (Or.inr (Or.inr (Or.inl (Int32.toInt_inj.mp (by rw [h]; rfl)))))
  · exact Or.inr (Or.inr (Or.inr (Or.inr (Or.inl (Int32.toInt_inj.mp (by rw [h]; rfl))))))
  · exact Or.inr (Or.inr (Or.inr (Or.inr (Or.inr (Or.inl (Int32.toInt_inj.mp (by rw [h]; rfl)))))))
  · exact Or.inr (Or.inr (Or.inr (Or.inr (Or.inr (Or.inr (Or.inl (Int32.toInt_inj.mp (by rw [h]; rfl))))))))
  · exact Or.inr (Or.inr (Or.inr (Or.inr (Or.inr (Or.inr (Or.inr (Or.inl (Int32.toInt_inj.mp (by rw [h]; rfl)))))))))
  · exact Or.inr (Or.inr (Or.inr (Or.inr (Or.inr (Or.inr (Or.inr (Or.inr (Or.inl (Int32.toInt_inj.mp (by rw [h]; rfl))))))))))
  · exact Or.inr (Or.inr (Or.inr (Or.inr (Or.inr (Or.inr (Or.inr (Or.inr (Or.inr (Or.inl (Int32.toInt_inj.mp (by rw [h]; rfl)))))))))))
  · exact Or.inr (Or.inr (Or.inr (Or.inr (Or.inr (Or.inr (Or.inr (Or.inr (Or.inr (Or.inr (Or.inl (Int32.toInt_inj.mp (by rw [h]; rfl))))))))))))
  · exact Or.inr (Or.inr (Or.inr (Or.inr (Or.inr (Or.inr (Or.inr (Or.inr (Or.inr (Or.inr (Or.inr (Or.inl (Int32.toInt_inj.mp (by rw [h]; rfl)))))))))))))
  · exact Or.inr (Or.inr (Or.inr (Or.inr (Or.inr (Or.inr (Or.inr (Or.inr (Or.inr (Or.inr (Or.inr (Or.inr (Or.inl (Int32.toInt_inj.mp (by rw [h]; rfl))))))))))))))
  · exact Or.inr (Or.inr (Or.inr (Or.inr (Or.inr (Or.inr (Or.inr (Or.inr (Or.inr (Or.inr (Or.inr (Or.inr (Or.inr (Or.inl (Int32.toInt_inj.mp (by rw [h]; rfl)))))))))))))))
  · exact Or.inr (Or.inr (Or.inr (Or.inr (Or.inr (Or.inr (Or.inr (Or.inr (Or.inr (Or.inr (Or.inr (Or.inr (Or.inr (Or.inr (Or.inl (Int32.toInt_inj.mp (by rw [h]; rfl))))))))))))))))
  · exact Or.inr (Or.inr (Or.inr (Or.inr (Or.inr (Or.inr (Or.inr (Or.inr (Or.inr (Or.inr (Or.inr (Or.inr (Or.inr (Or.inr (Or.inr ((Int32.toInt_inj.mp (by rw [h]; rfl)))))))))))))))))
theorem own_p0 (w : Nat → Addr) : pickA (0 : Int32) w = w 0 := rfl
theorem own_e0 : expd (0 : Int32) = 0 := rfl
theorem own_p1 (w : Nat → Addr) : pickA (1 : Int32) w = w 1 := rfl
theorem own_e1 : expd (1 : Int32) = 0 := rfl
theorem own_p2 (w : Nat → Addr) : pickA (2 : Int32) w = w 2 := rfl
theorem own_e2 : expd (2 : Int32) = 0 := rfl
theorem own_p3 (w : Nat → Addr) : pickA (3 : Int32) w = w 3 := rfl
theorem own_e3 : expd (3 : Int32) = 0 := rfl
theorem own_p4 (w : Nat → Addr) : pickA (4 : Int32) w = w 4 := rfl
theorem own_e4 : expd (4 : Int32) = 0 := rfl
theorem own_p5 (w : Nat → Addr) : pickA (5 : Int32) w = w 5 := rfl
theorem own_e5 : expd (5 : Int32) = 0 := rfl
theorem own_p6 (w : Nat → Addr) : pickA (6 : Int32) w = w 6 := rfl
theorem own_e6 : expd (6 : Int32) = 0 := rfl
theorem own_p7 (w : Nat → Addr) : pickA (7 : Int32) w = w 7 := rfl
theorem own_e7 : expd (7 : Int32) = 0 := rfl
theorem own_p8 (w : Nat → Addr) : pickA (8 : Int32) w = w 8 := rfl
theorem own_e8 : expd (8 : Int32) = 0 := rfl
theorem own_p9 (w : Nat → Addr) : pickA (9 : Int32) w = w 9 := rfl
theorem own_e9 : expd (9 : Int32) = 0 := rfl
theorem own_p10 (w : Nat → Addr) : pickA (10 : Int32) w = w 10 := rfl
theorem own_e10 : expd (10 : Int32) = 0 := rfl
theorem own_p11 (w : Nat → Addr) : pickA (11 : Int32) w = w 11 := rfl
theorem own_e11 : expd (11 : Int32) = 1 := rfl
theorem own_p12 (w : Nat → Addr) : pickA (12 : Int32) w = w 12 := rfl
theorem own_e12 : expd (12 : Int32) = 0 := rfl
theorem own_p13 (w : Nat → Addr) : pickA (13 : Int32) w = w 13 := rfl
theorem own_e13 : expd (13 : Int32) = 1 := rfl
theorem own_p14 (w : Nat → Addr) : pickA (14 : Int32) w = w 14 := rfl
theorem own_e14 : expd (14 : Int32) = 1 := rfl
theorem own_p15 (w : Nat → Addr) : pickA (15 : Int32) w = w 15 := rfl
theorem own_e15 : expd (15 : Int32) = 0 := rfl
theorem d1_0 : decode method_2_code 0 = .ok (.iload_n 0, 1) := by decide +kernel
theorem d1_1 : decode method_2_code 1 = .ok (.ifCond .ne 7, 3) := by decide +kernel
theorem d1_4 : decode method_2_code 4 = .ok (.getstatic 7, 3) := by decide +kernel
theorem d1_7 : decode method_2_code 7 = .ok (.areturn, 1) := by decide +kernel
theorem d1_8 : decode method_2_code 8 = .ok (.iload_n 0, 1) := by decide +kernel
theorem d1_9 : decode method_2_code 9 = .ok (.iconst 1, 1) := by decide +kernel
theorem d1_10 : decode method_2_code 10 = .ok (.if_icmp .ne 7, 3) := by decide +kernel
theorem d1_13 : decode method_2_code 13 = .ok (.getstatic 13, 3) := by decide +kernel
theorem d1_16 : decode method_2_code 16 = .ok (.areturn, 1) := by decide +kernel
theorem d1_17 : decode method_2_code 17 = .ok (.iload_n 0, 1) := by decide +kernel
theorem d1_18 : decode method_2_code 18 = .ok (.iconst 2, 1) := by decide +kernel
theorem d1_19 : decode method_2_code 19 = .ok (.if_icmp .ne 7, 3) := by decide +kernel
theorem d1_22 : decode method_2_code 22 = .ok (.getstatic 16, 3) := by decide +kernel
theorem d1_25 : decode method_2_code 25 = .ok (.areturn, 1) := by decide +kernel
theorem d1_26 : decode method_2_code 26 = .ok (.iload_n 0, 1) := by decide +kernel
theorem d1_27 : decode method_2_code 27 = .ok (.iconst 3, 1) := by decide +kernel
theorem d1_28 : decode method_2_code 28 = .ok (.if_icmp .ne 7, 3) := by decide +kernel
theorem d1_31 : decode method_2_code 31 = .ok (.getstatic 19, 3) := by decide +kernel
theorem d1_34 : decode method_2_code 34 = .ok (.areturn, 1) := by decide +kernel
theorem d1_35 : decode method_2_code 35 = .ok (.iload_n 0, 1) := by decide +kernel
theorem d1_36 : decode method_2_code 36 = .ok (.iconst 4, 1) := by decide +kernel
theorem d1_37 : decode method_2_code 37 = .ok (.if_icmp .ne 7, 3) := by decide +kernel
theorem d1_40 : decode method_2_code 40 = .ok (.getstatic 22, 3) := by decide +kernel
theorem d1_43 : decode method_2_code 43 = .ok (.areturn, 1) := by decide +kernel
theorem d1_44 : decode method_2_code 44 = .ok (.iload_n 0, 1) := by decide +kernel
theorem d1_45 : decode method_2_code 45 = .ok (.iconst 5, 1) := by decide +kernel
theorem d1_46 : decode method_2_code 46 = .ok (.if_icmp .ne 7, 3) := by decide +kernel
theorem d1_49 : decode method_2_code 49 = .ok (.getstatic 25, 3) := by decide +kernel
theorem d1_52 : decode method_2_code 52 = .ok (.areturn, 1) := by decide +kernel
theorem d1_53 : decode method_2_code 53 = .ok (.iload_n 0, 1) := by decide +kernel
theorem d1_54 : decode method_2_code 54 = .ok (.bipush 6, 2) := by decide +kernel
theorem d1_56 : decode method_2_code 56 = .ok (.if_icmp .ne 7, 3) := by decide +kernel
theorem d1_59 : decode method_2_code 59 = .ok (.getstatic 28, 3) := by decide +kernel
theorem d1_62 : decode method_2_code 62 = .ok (.areturn, 1) := by decide +kernel
theorem d1_63 : decode method_2_code 63 = .ok (.iload_n 0, 1) := by decide +kernel
theorem d1_64 : decode method_2_code 64 = .ok (.bipush 7, 2) := by decide +kernel
theorem d1_66 : decode method_2_code 66 = .ok (.if_icmp .ne 7, 3) := by decide +kernel
theorem d1_69 : decode method_2_code 69 = .ok (.getstatic 31, 3) := by decide +kernel
theorem d1_72 : decode method_2_code 72 = .ok (.areturn, 1) := by decide +kernel
theorem d1_73 : decode method_2_code 73 = .ok (.iload_n 0, 1) := by decide +kernel
theorem d1_74 : decode method_2_code 74 = .ok (.bipush 8, 2) := by decide +kernel
theorem d1_76 : decode method_2_code 76 = .ok (.if_icmp .ne 7, 3) := by decide +kernel
theorem d1_79 : decode method_2_code 79 = .ok (.getstatic 34, 3) := by decide +kernel
theorem d1_82 : decode method_2_code 82 = .ok (.areturn, 1) := by decide +kernel
theorem d1_83 : decode method_2_code 83 = .ok (.iload_n 0, 1) := by decide +kernel
theorem d1_84 : decode method_2_code 84 = .ok (.bipush 9, 2) := by decide +kernel
theorem d1_86 : decode method_2_code 86 = .ok (.if_icmp .ne 7, 3) := by decide +kernel
theorem d1_89 : decode method_2_code 89 = .ok (.getstatic 37, 3) := by decide +kernel
theorem d1_92 : decode method_2_code 92 = .ok (.areturn, 1) := by decide +kernel
theorem d1_93 : decode method_2_code 93 = .ok (.iload_n 0, 1) := by decide +kernel
theorem d1_94 : decode method_2_code 94 = .ok (.bipush 10, 2) := by decide +kernel
theorem d1_96 : decode method_2_code 96 = .ok (.if_icmp .ne 7, 3) := by decide +kernel
theorem d1_99 : decode method_2_code 99 = .ok (.getstatic 40, 3) := by decide +kernel
theorem d1_102 : decode method_2_code 102 = .ok (.areturn, 1) := by decide +kernel
theorem d1_103 : decode method_2_code 103 = .ok (.iload_n 0, 1) := by decide +kernel
theorem d1_104 : decode method_2_code 104 = .ok (.bipush 11, 2) := by decide +kernel
theorem d1_106 : decode method_2_code 106 = .ok (.if_icmp .ne 7, 3) := by decide +kernel
theorem d1_109 : decode method_2_code 109 = .ok (.getstatic 43, 3) := by decide +kernel
theorem d1_112 : decode method_2_code 112 = .ok (.areturn, 1) := by decide +kernel
theorem d1_113 : decode method_2_code 113 = .ok (.iload_n 0, 1) := by decide +kernel
theorem d1_114 : decode method_2_code 114 = .ok (.bipush 12, 2) := by decide +kernel
theorem d1_116 : decode method_2_code 116 = .ok (.if_icmp .ne 7, 3) := by decide +kernel
theorem d1_119 : decode method_2_code 119 = .ok (.getstatic 46, 3) := by decide +kernel
theorem d1_122 : decode method_2_code 122 = .ok (.areturn, 1) := by decide +kernel
theorem d1_123 : decode method_2_code 123 = .ok (.iload_n 0, 1) := by decide +kernel
theorem d1_124 : decode method_2_code 124 = .ok (.bipush 13, 2) := by decide +kernel
theorem d1_126 : decode method_2_code 126 = .ok (.if_icmp .ne 7, 3) := by decide +kernel
theorem d1_129 : decode method_2_code 129 = .ok (.getstatic 49, 3) := by decide +kernel
theorem d1_132 : decode method_2_code 132 = .ok (.areturn, 1) := by decide +kernel
theorem d1_133 : decode method_2_code 133 = .ok (.iload_n 0, 1) := by decide +kernel
theorem d1_134 : decode method_2_code 134 = .ok (.bipush 14, 2) := by decide +kernel
theorem d1_136 : decode method_2_code 136 = .ok (.if_icmp .ne 7, 3) := by decide +kernel
theorem d1_139 : decode method_2_code 139 = .ok (.getstatic 52, 3) := by decide +kernel
theorem d1_142 : decode method_2_code 142 = .ok (.areturn, 1) := by decide +kernel
theorem d1_143 : decode method_2_code 143 = .ok (.getstatic 55, 3) := by decide +kernel
theorem d1_146 : decode method_2_code 146 = .ok (.areturn, 1) := by decide +kernel
theorem pn_rm1 : plainName "com/example/omomi/omomi/WordBreakIsBetweenLettersPinLaw" = true := by first | (simp [plainName, overriddenIn]; done) | decide +kernel
theorem ef_rm1 (m : MethodId) (p1 : Int32) : entryFrame m #[(.int p1)] 1 = mkF m 0 #[.val (.int p1)] [] := by first | (simp [entryFrame, mkF, argsToLocals, Value.category]; done) | rfl
def Q_rm1 (Z : State) (p1 : Int32) (w : Nat → Addr) (r : Addr) (h0 : Heap) (n0 : Nat) (v : Option Value) (h : Heap) (L : List Loc) : Prop := v = some (.ref r) ∧ Fr n0 L ∧ h = h0
set_option maxRecDepth 65536 in
set_option maxHeartbeats 40000000 in
theorem rm1 (l : Launch) (Z : State) (a0 : Array Value) (hw : ∀ d ∈ tables_1, d.before a0 Z = true) (ws : List Jvm.Cond) (p1 : Int32) (w : Nat → Addr) (r : Addr) (h0 : Heap) (n0 : Nat) (Z0 : n0 ≤ h0.size) (S_OTHER : Sta Z h0 "com/example/omomi/omomi/WordBreak" "OTHER" "Lcom/example/omomi/omomi/WordBreak;" (.ref (w 0))) (S_NEWLINE : Sta Z h0 "com/example/omomi/omomi/WordBreak" "NEWLINE" "Lcom/example/omomi/omomi/WordBreak;" (.ref (w 1))) (S_EXTEND : Sta Z h0 "com/example/omomi/omomi/WordBreak" "EXTEND" "Lcom/example/omomi/omomi/WordBreak;" (.ref (w 2))) (S_REGIONAL_INDICATOR : Sta Z h0 "com/example/omomi/omomi/WordBreak" "REGIONAL_INDICATOR" "Lcom/example/omomi/omomi/WordBreak;" (.ref (w 3))) (S_W_SEG_SPACE : Sta Z h0 "com/example/omomi/omomi/WordBreak" "W_SEG_SPACE" "Lcom/example/omomi/omomi/WordBreak;" (.ref (w 4))) (S_A_LETTER : Sta Z h0 "com/example/omomi/omomi/WordBreak" "A_LETTER" "Lcom/example/omomi/omomi/WordBreak;" (.ref (w 5))) (S_HEBREW_LETTER : Sta Z h0 "com/example/omomi/omomi/WordBreak" "HEBREW_LETTER" "Lcom/example/omomi/omomi/WordBreak;" (.ref (w 6))) (S_NUMERIC : Sta Z h0 "com/example/omomi/omomi/WordBreak" "NUMERIC" "Lcom/example/omomi/omomi/WordBreak;" (.ref (w 7))) (S_KATAKANA : Sta Z h0 "com/example/omomi/omomi/WordBreak" "KATAKANA" "Lcom/example/omomi/omomi/WordBreak;" (.ref (w 8))) (S_EXTEND_NUM_LET : Sta Z h0 "com/example/omomi/omomi/WordBreak" "EXTEND_NUM_LET" "Lcom/example/omomi/omomi/WordBreak;" (.ref (w 9))) (S_SOUTHEAST_ASIAN : Sta Z h0 "com/example/omomi/omomi/WordBreak" "SOUTHEAST_ASIAN" "Lcom/example/omomi/omomi/WordBreak;" (.ref (w 10))) (S_MID_LETTER : Sta Z h0 "com/example/omomi/omomi/WordBreak" "MID_LETTER" "Lcom/example/omomi/omomi/WordBreak;" (.ref (w 11))) (S_MID_NUM : Sta Z h0 "com/example/omomi/omomi/WordBreak" "MID_NUM" "Lcom/example/omomi/omomi/WordBreak;" (.ref (w 12))) (S_MID_NUM_LET : Sta Z h0 "com/example/omomi/omomi/WordBreak" "MID_NUM_LET" "Lcom/example/omomi/omomi/WordBreak;" (.ref (w 13))) (S_SINGLE_QUOTE : Sta Z h0 "com/example/omomi/omomi/WordBreak" "SINGLE_QUOTE" "Lcom/example/omomi/omomi/WordBreak;" (.ref (w 14))) (S_DOUBLE_QUOTE : Sta Z h0 "com/example/omomi/omomi/WordBreak" "DOUBLE_QUOTE" "Lcom/example/omomi/omomi/WordBreak;" (.ref (w 15))) (hret : pickA p1 w = r) :
    MetFree l (⟨"com/example/omomi/omomi/WordBreakIsBetweenLettersPinLaw", "pick", "(I)Lcom/example/omomi/omomi/WordBreak;"⟩ : MethodName) (head1 (Jvm.Cond.code (⟨"com/example/omomi/omomi/WordBreakIsBetweenLettersPinLaw", "pick", "(I)Lcom/example/omomi/omomi/WordBreak;"⟩ : MethodName) method_2_code 1 (some (.object "com/example/omomi/omomi/WordBreak")) :: ws) ({ frames := 0, cells := 0, slots := 0, locals := 0 } : Room)) (fun a U => a = #[(.int p1)] ∧ Z.Warmed39 U.vm ∧ U.heap = h0) (fun _ _ _ _ _ => True) (fun _ U o U' => ∃ v L, o = .returned v ∧ Q_rm1 Z p1 w r h0 n0 v U'.heap L ∧ FrameEnd U o U' L ({ frames := 0, cells := 0, slots := 0, locals := 0 } : Room).cells ({ frames := 0, cells := 0, slots := 0, locals := 0 } : Room).slots) := by
  refine MetFree.of_bodySF (plainFor_of_name pn_rm1) hisR ?_
  intro p e s m args below meth c s₁ Bd hml0 hP hK
  obtain ⟨rfl, hZ, hh⟩ := hP
  have hx := Bd.exec
  have hby := Bd.bytes
  have hml : c.maxLocals = 1 := hml0
  have hown : s.vm.findClass "com/example/omomi/omomi/WordBreakIsBetweenLettersPinLaw" = some m.cls := findClass_of_methodNamed Bd.named
  have hnm := (name_of_methodNamed Bd.named Bd.method).1
  have X0 : Stand p l e ({ frames := 0, cells := 0, slots := 0, locals := 0 } : Room) s m #[(.int p1)] below meth c s₁ [] 0 0 := Stand.of_body Bd
  have e0 : s₁.heap = h0 := by rw [← hh, Bd.state]; rfl
  have N0 := Fr.nil n0
  have pre0 : ∀ t, Steps p.tables e below (s₁.setTop (mkF m 0 #[.val (.int p1)] [])) t → Steps p.tables e below (s₁.setTop (entryFrame m #[(.int p1)] 1)) t := fun t k => castTop (ef_rm1 m p1) k
  have pre1 : ∀ t, Steps p.tables e below (s₁.setTop (mkF m 1 #[.val (.int p1)] [(.int p1)])) t → Steps p.tables e below (s₁.setTop (entryFrame m #[(.int p1)] 1)) t := fun t k => pre0 t (by
      show Steps p.tables e below (s₁.setTop (mkF m 0 #[.val (.int p1)] [])) _
      refine XS.iloadN X0.here hx rfl (hb hby d1_0) rfl ?_
      exact k)
  by_cases hc2 : p1 = (0 : Int32)
  · obtain ⟨T3, X3, e3, st3⟩ := getS2 X0 hx hZ hown (host := "") (Or.inl (hw _ (List.mem_of_getElem? (i := 5) rfl))) Via.refl e0 S_OTHER (g := (mkF m 4 #[.val (.int p1)] [])) rfl (hb hby d1_4)
    obtain ⟨fs, hr, hrun, hended, hW, hsame⟩ := X3.leave (v := some (.ref (w 0))) (fun h => by rw [Bd.returns] at h; cases h)
    refine ⟨_, _, pre1 _ ?_, hrun, hended, _, _, rfl, ?_, ⟨_, rfl⟩, hW, hsame.mono (by decide) (by decide)⟩
    · show Steps p.tables e below (s₁.setTop (mkF m 1 #[.val (.int p1)] [(.int p1)])) _
      refine XS.ifNo X0.here hx rfl (hb hby d1_1) rfl ((if0 _ _).trans (teq hc2).2) ?_
      show Steps p.tables e below (s₁.setTop (mkF m 4 #[.val (.int p1)] [])) _
      refine st3 _ ?_
      show Steps p.tables e below (T3.setTop (mkF m 7 #[.val (.int p1)] [(.ref (w 0))])) _
      jvm_step X3.here [X3.here.top, hx, (hb hby d1_7), X3.method', Bd.returns, Value.isRef, FieldType.isReference]
      first | (intro acts; rw [hr _ acts rfl rfl rfl]) | rw [hr _ _ rfl rfl rfl]
      exact Steps.refl _
    · show Q_rm1 Z p1 w r h0 n0 _ T3.heap _
      rw [e3]
      exact ⟨by rw [← hret]; simp only [pickA, if_pos hc2], N0, rfl⟩
  · have pre4 : ∀ t, Steps p.tables e below (s₁.setTop (mkF m 10 #[.val (.int p1)] [(.int (1 : Int32)), (.int p1)])) t → Steps p.tables e below (s₁.setTop (entryFrame m #[(.int p1)] 1)) t := fun t k => pre1 t (by
        show Steps p.tables e below (s₁.setTop (mkF m 1 #[.val (.int p1)] [(.int p1)])) _
        refine XS.ifYes X0.here hx rfl (pc0 := 1) (pc' := 8) rfl (hb hby d1_1) rfl ((if0 _ _).trans (feq hc2).2) (by decide) (by decide) ?_
        show Steps p.tables e below (s₁.setTop (mkF m 8 #[.val (.int p1)] [])) _
        refine XS.iloadN X0.here hx rfl (hb hby d1_8) rfl ?_
        show Steps p.tables e below (s₁.setTop (mkF m 9 #[.val (.int p1)] [(.int p1)])) _
        refine XS.iconst X0.here hx rfl (hb hby d1_9) ?_
        exact k)
    by_cases hc5 : p1 = (1 : Int32)
    · obtain ⟨T6, X6, e6, st6⟩ := getS2 X0 hx hZ hown (host := "") (Or.inl (hw _ (List.mem_of_getElem? (i := 36) rfl))) Via.refl e0 S_NEWLINE (g := (mkF m 13 #[.val (.int p1)] [])) rfl (hb hby d1_13)
      obtain ⟨fs, hr, hrun, hended, hW, hsame⟩ := X6.leave (v := some (.ref (w 1))) (fun h => by rw [Bd.returns] at h; cases h)
      refine ⟨_, _, pre4 _ ?_, hrun, hended, _, _, rfl, ?_, ⟨_, rfl⟩, hW, hsame.mono (by decide) (by decide)⟩
      · show Steps p.tables e below (s₁.setTop (mkF m 10 #[.val (.int p1)] [(.int (1 : Int32)), (.int p1)])) _
        refine XS.icmpNo X0.here hx rfl (hb hby d1_10) rfl (teq hc5).2 ?_
        show Steps p.tables e below (s₁.setTop (mkF m 13 #[.val (.int p1)] [])) _
        refine st6 _ ?_
        show Steps p.tables e below (T6.setTop (mkF m 16 #[.val (.int p1)] [(.ref (w 1))])) _
        jvm_step X6.here [X6.here.top, hx, (hb hby d1_16), X6.method', Bd.returns, Value.isRef, FieldType.isReference]
        first | (intro acts; rw [hr _ acts rfl rfl rfl]) | rw [hr _ _ rfl rfl rfl]
        exact Steps.refl _
      · show Q_rm1 Z p1 w r h0 n0 _ T6.heap _
        rw [e6]
        exact ⟨by rw [← hret]; simp only [pickA, if_neg hc2, if_pos hc5], N0, rfl⟩
    · have pre7 : ∀ t, Steps p.tables e below (s₁.setTop (mkF m 19 #[.val (.int p1)] [(.int (2 : Int32)), (.int p1)])) t → Steps p.tables e below (s₁.setTop (entryFrame m #[(.int p1)] 1)) t := fun t k => pre4 t (by
          show Steps p.tables e below (s₁.setTop (mkF m 10 #[.val (.int p1)] [(.int (1 : Int32)), (.int p1)])) _
          refine XS.icmpYes X0.here hx rfl (pc0 := 10) (pc' := 17) rfl (hb hby d1_10) rfl (feq hc5).2 (by decide) (by decide) ?_
          show Steps p.tables e below (s₁.setTop (mkF m 17 #[.val (.int p1)] [])) _
          refine XS.iloadN X0.here hx rfl (hb hby d1_17) rfl ?_
          show Steps p.tables e below (s₁.setTop (mkF m 18 #[.val (.int p1)] [(.int p1)])) _
          refine XS.iconst X0.here hx rfl (hb hby d1_18) ?_
          exact k)
      by_cases hc8 : p1 = (2 : Int32)
      · obtain ⟨T9, X9, e9, st9⟩ := getS2 X0 hx hZ hown (host := "") (Or.inl (hw _ (List.mem_of_getElem? (i := 31) rfl))) Via.refl e0 S_EXTEND (g := (mkF m 22 #[.val (.int p1)] [])) rfl (hb hby d1_22)
        obtain ⟨fs, hr, hrun, hended, hW, hsame⟩ := X9.leave (v := some (.ref (w 2))) (fun h => by rw [Bd.returns] at h; cases h)
        refine ⟨_, _, pre7 _ ?_, hrun, hended, _, _, rfl, ?_, ⟨_, rfl⟩, hW, hsame.mono (by decide) (by decide)⟩
        · show Steps p.tables e below (s₁.setTop (mkF m 19 #[.val (.int p1)] [(.int (2 : Int32)), (.int p1)])) _
          refine XS.icmpNo X0.here hx rfl (hb hby d1_19) rfl (teq hc8).2 ?_
          show Steps p.tables e below (s₁.setTop (mkF m 22 #[.val (.int p1)] [])) _
          refine st9 _ ?_
          show Steps p.tables e below (T9.setTop (mkF m 25 #[.val (.int p1)] [(.ref (w 2))])) _
          jvm_step X9.here [X9.here.top, hx, (hb hby d1_25), X9.method', Bd.returns, Value.isRef, FieldType.isReference]
          first | (intro acts; rw [hr _ acts rfl rfl rfl]) | rw [hr _ _ rfl rfl rfl]
          exact Steps.refl _
        · show Q_rm1 Z p1 w r h0 n0 _ T9.heap _
          rw [e9]
          exact ⟨by rw [← hret]; simp only [pickA, if_neg hc2, if_neg hc5, if_pos hc8], N0, rfl⟩
      · have pre10 : ∀ t, Steps p.tables e below (s₁.setTop (mkF m 28 #[.val (.int p1)] [(.int (3 : Int32)), (.int p1)])) t → Steps p.tables e below (s₁.setTop (entryFrame m #[(.int p1)] 1)) t := fun t k => pre7 t (by
            show Steps p.tables e below (s₁.setTop (mkF m 19 #[.val (.int p1)] [(.int (2 : Int32)), (.int p1)])) _
            refine XS.icmpYes X0.here hx rfl (pc0 := 19) (pc' := 26) rfl (hb hby d1_19) rfl (feq hc8).2 (by decide) (by decide) ?_
            show Steps p.tables e below (s₁.setTop (mkF m 26 #[.val (.int p1)] [])) _
            refine XS.iloadN X0.here hx rfl (hb hby d1_26) rfl ?_
            show Steps p.tables e below (s₁.setTop (mkF m 27 #[.val (.int p1)] [(.int p1)])) _
            refine XS.iconst X0.here hx rfl (hb hby d1_27) ?_
            exact k)
        by_cases hc11 : p1 = (3 : Int32)
        · obtain ⟨T12, X12, e12, st12⟩ := getS2 X0 hx hZ hown (host := "") (Or.inl (hw _ (List.mem_of_getElem? (i := 22) rfl))) Via.refl e0 S_REGIONAL_INDICATOR (g := (mkF m 31 #[.val (.int p1)] [])) rfl (hb hby d1_31)
          obtain ⟨fs, hr, hrun, hended, hW, hsame⟩ := X12.leave (v := some (.ref (w 3))) (fun h => by rw [Bd.returns] at h; cases h)
          refine ⟨_, _, pre10 _ ?_, hrun, hended, _, _, rfl, ?_, ⟨_, rfl⟩, hW, hsame.mono (by decide) (by decide)⟩
          · show Steps p.tables e below (s₁.setTop (mkF m 28 #[.val (.int p1)] [(.int (3 : Int32)), (.int p1)])) _
            refine XS.icmpNo X0.here hx rfl (hb hby d1_28) rfl (teq hc11).2 ?_
            show Steps p.tables e below (s₁.setTop (mkF m 31 #[.val (.int p1)] [])) _
            refine st12 _ ?_
            show Steps p.tables e below (T12.setTop (mkF m 34 #[.val (.int p1)] [(.ref (w 3))])) _
            jvm_step X12.here [X12.here.top, hx, (hb hby d1_34), X12.method', Bd.returns, Value.isRef, FieldType.isReference]
            first | (intro acts; rw [hr _ acts rfl rfl rfl]) | rw [hr _ _ rfl rfl rfl]
            exact Steps.refl _
          · show Q_rm1 Z p1 w r h0 n0 _ T12.heap _
            rw [e12]
            exact ⟨by rw [← hret]; simp only [pickA, if_neg hc2, if_neg hc5, if_neg hc8, if_pos hc11], N0, rfl⟩
        · have pre13 : ∀ t, Steps p.tables e below (s₁.setTop (mkF m 37 #[.val (.int p1)] [(.int (4 : Int32)), (.int p1)])) t → Steps p.tables e below (s₁.setTop (entryFrame m #[(.int p1)] 1)) t := fun t k => pre10 t (by
              show Steps p.tables e below (s₁.setTop (mkF m 28 #[.val (.int p1)] [(.int (3 : Int32)), (.int p1)])) _
              refine XS.icmpYes X0.here hx rfl (pc0 := 28) (pc' := 35) rfl (hb hby d1_28) rfl (feq hc11).2 (by decide) (by decide) ?_
              show Steps p.tables e below (s₁.setTop (mkF m 35 #[.val (.int p1)] [])) _
              refine XS.iloadN X0.here hx rfl (hb hby d1_35) rfl ?_
              show Steps p.tables e below (s₁.setTop (mkF m 36 #[.val (.int p1)] [(.int p1)])) _
              refine XS.iconst X0.here hx rfl (hb hby d1_36) ?_
              exact k)
          by_cases hc14 : p1 = (4 : Int32)
          · obtain ⟨T15, X15, e15, st15⟩ := getS2 X0 hx hZ hown (host := "") (Or.inl (hw _ (List.mem_of_getElem? (i := 38) rfl))) Via.refl e0 S_W_SEG_SPACE (g := (mkF m 40 #[.val (.int p1)] [])) rfl (hb hby d1_40)
            obtain ⟨fs, hr, hrun, hended, hW, hsame⟩ := X15.leave (v := some (.ref (w 4))) (fun h => by rw [Bd.returns] at h; cases h)
            refine ⟨_, _, pre13 _ ?_, hrun, hended, _, _, rfl, ?_, ⟨_, rfl⟩, hW, hsame.mono (by decide) (by decide)⟩
            · show Steps p.tables e below (s₁.setTop (mkF m 37 #[.val (.int p1)] [(.int (4 : Int32)), (.int p1)])) _
              refine XS.icmpNo X0.here hx rfl (hb hby d1_37) rfl (teq hc14).2 ?_
              show Steps p.tables e below (s₁.setTop (mkF m 40 #[.val (.int p1)] [])) _
              refine st15 _ ?_
              show Steps p.tables e below (T15.setTop (mkF m 43 #[.val (.int p1)] [(.ref (w 4))])) _
              jvm_step X15.here [X15.here.top, hx, (hb hby d1_43), X15.method', Bd.returns, Value.isRef, FieldType.isReference]
              first | (intro acts; rw [hr _ acts rfl rfl rfl]) | rw [hr _ _ rfl rfl rfl]
              exact Steps.refl _
            · show Q_rm1 Z p1 w r h0 n0 _ T15.heap _
              rw [e15]
              exact ⟨by rw [← hret]; simp only [pickA, if_neg hc2, if_neg hc5, if_neg hc8, if_neg hc11, if_pos hc14], N0, rfl⟩
          · have pre16 : ∀ t, Steps p.tables e below (s₁.setTop (mkF m 46 #[.val (.int p1)] [(.int (5 : Int32)), (.int p1)])) t → Steps p.tables e below (s₁.setTop (entryFrame m #[(.int p1)] 1)) t := fun t k => pre13 t (by
                show Steps p.tables e below (s₁.setTop (mkF m 37 #[.val (.int p1)] [(.int (4 : Int32)), (.int p1)])) _
                refine XS.icmpYes X0.here hx rfl (pc0 := 37) (pc' := 44) rfl (hb hby d1_37) rfl (feq hc14).2 (by decide) (by decide) ?_
                show Steps p.tables e below (s₁.setTop (mkF m 44 #[.val (.int p1)] [])) _
                refine XS.iloadN X0.here hx rfl (hb hby d1_44) rfl ?_
                show Steps p.tables e below (s₁.setTop (mkF m 45 #[.val (.int p1)] [(.int p1)])) _
                refine XS.iconst X0.here hx rfl (hb hby d1_45) ?_
                exact k)
            by_cases hc17 : p1 = (5 : Int32)
            · obtain ⟨T18, X18, e18, st18⟩ := getS2 X0 hx hZ hown (host := "") (Or.inl (hw _ (List.mem_of_getElem? (i := 47) rfl))) Via.refl e0 S_A_LETTER (g := (mkF m 49 #[.val (.int p1)] [])) rfl (hb hby d1_49)
              obtain ⟨fs, hr, hrun, hended, hW, hsame⟩ := X18.leave (v := some (.ref (w 5))) (fun h => by rw [Bd.returns] at h; cases h)
              refine ⟨_, _, pre16 _ ?_, hrun, hended, _, _, rfl, ?_, ⟨_, rfl⟩, hW, hsame.mono (by decide) (by decide)⟩
              · show Steps p.tables e below (s₁.setTop (mkF m 46 #[.val (.int p1)] [(.int (5 : Int32)), (.int p1)])) _
                refine XS.icmpNo X0.here hx rfl (hb hby d1_46) rfl (teq hc17).2 ?_
                show Steps p.tables e below (s₁.setTop (mkF m 49 #[.val (.int p1)] [])) _
                refine st18 _ ?_
                show Steps p.tables e below (T18.setTop (mkF m 52 #[.val (.int p1)] [(.ref (w 5))])) _
                jvm_step X18.here [X18.here.top, hx, (hb hby d1_52), X18.method', Bd.returns, Value.isRef, FieldType.isReference]
                first | (intro acts; rw [hr _ acts rfl rfl rfl]) | rw [hr _ _ rfl rfl rfl]
                exact Steps.refl _
              · show Q_rm1 Z p1 w r h0 n0 _ T18.heap _
                rw [e18]
                exact ⟨by rw [← hret]; simp only [pickA, if_neg hc2, if_neg hc5, if_neg hc8, if_neg hc11, if_neg hc14, if_pos hc17], N0, rfl⟩
            · have pre19 : ∀ t, Steps p.tables e below (s₁.setTop (mkF m 56 #[.val (.int p1)] [(.int (6 : Int32)), (.int p1)])) t → Steps p.tables e below (s₁.setTop (entryFrame m #[(.int p1)] 1)) t := fun t k => pre16 t (by
                  show Steps p.tables e below (s₁.setTop (mkF m 46 #[.val (.int p1)] [(.int (5 : Int32)), (.int p1)])) _
                  refine XS.icmpYes X0.here hx rfl (pc0 := 46) (pc' := 53) rfl (hb hby d1_46) rfl (feq hc17).2 (by decide) (by decide) ?_
                  show Steps p.tables e below (s₁.setTop (mkF m 53 #[.val (.int p1)] [])) _
                  refine XS.iloadN X0.here hx rfl (hb hby d1_53) rfl ?_
                  show Steps p.tables e below (s₁.setTop (mkF m 54 #[.val (.int p1)] [(.int p1)])) _
                  refine XS.bipush X0.here hx rfl (hb hby d1_54) ?_
                  exact k)
              by_cases hc20 : p1 = (6 : Int32)
              · obtain ⟨T21, X21, e21, st21⟩ := getS2 X0 hx hZ hown (host := "") (Or.inl (hw _ (List.mem_of_getElem? (i := 43) rfl))) Via.refl e0 S_HEBREW_LETTER (g := (mkF m 59 #[.val (.int p1)] [])) rfl (hb hby d1_59)
                obtain ⟨fs, hr, hrun, hended, hW, hsame⟩ := X21.leave (v := some (.ref (w 6))) (fun h => by rw [Bd.returns] at h; cases h)
                refine ⟨_, _, pre19 _ ?_, hrun, hended, _, _, rfl, ?_, ⟨_, rfl⟩, hW, hsame.mono (by decide) (by decide)⟩
                · show Steps p.tables e below (s₁.setTop (mkF m 56 #[.val (.int p1)] [(.int (6 : Int32)), (.int p1)])) _
                  refine XS.icmpNo X0.here hx rfl (hb hby d1_56) rfl (teq hc20).2 ?_
                  show Steps p.tables e below (s₁.setTop (mkF m 59 #[.val (.int p1)] [])) _
                  refine st21 _ ?_
                  show Steps p.tables e below (T21.setTop (mkF m 62 #[.val (.int p1)] [(.ref (w 6))])) _
                  jvm_step X21.here [X21.here.top, hx, (hb hby d1_62), X21.method', Bd.returns, Value.isRef, FieldType.isReference]
                  first | (intro acts; rw [hr _ acts rfl rfl rfl]) | rw [hr _ _ rfl rfl rfl]
                  exact Steps.refl _
                · show Q_rm1 Z p1 w r h0 n0 _ T21.heap _
                  rw [e21]
                  exact ⟨by rw [← hret]; simp only [pickA, if_neg hc2, if_neg hc5, if_neg hc8, if_neg hc11, if_neg hc14, if_neg hc17, if_pos hc20], N0, rfl⟩
              · have pre22 : ∀ t, Steps p.tables e below (s₁.setTop (mkF m 66 #[.val (.int p1)] [(.int (7 : Int32)), (.int p1)])) t → Steps p.tables e below (s₁.setTop (entryFrame m #[(.int p1)] 1)) t := fun t k => pre19 t (by
                    show Steps p.tables e below (s₁.setTop (mkF m 56 #[.val (.int p1)] [(.int (6 : Int32)), (.int p1)])) _
                    refine XS.icmpYes X0.here hx rfl (pc0 := 56) (pc' := 63) rfl (hb hby d1_56) rfl (feq hc20).2 (by decide) (by decide) ?_
                    show Steps p.tables e below (s₁.setTop (mkF m 63 #[.val (.int p1)] [])) _
                    refine XS.iloadN X0.here hx rfl (hb hby d1_63) rfl ?_
                    show Steps p.tables e below (s₁.setTop (mkF m 64 #[.val (.int p1)] [(.int p1)])) _
                    refine XS.bipush X0.here hx rfl (hb hby d1_64) ?_
                    exact k)
                by_cases hc23 : p1 = (7 : Int32)
                · obtain ⟨T24, X24, e24, st24⟩ := getS2 X0 hx hZ hown (host := "") (Or.inl (hw _ (List.mem_of_getElem? (i := 29) rfl))) Via.refl e0 S_NUMERIC (g := (mkF m 69 #[.val (.int p1)] [])) rfl (hb hby d1_69)
                  obtain ⟨fs, hr, hrun, hended, hW, hsame⟩ := X24.leave (v := some (.ref (w 7))) (fun h => by rw [Bd.returns] at h; cases h)
                  refine ⟨_, _, pre22 _ ?_, hrun, hended, _, _, rfl, ?_, ⟨_, rfl⟩, hW, hsame.mono (by decide) (by decide)⟩
                  · show Steps p.tables e below (s₁.setTop (mkF m 66 #[.val (.int p1)] [(.int (7 : Int32)), (.int p1)])) _
                    refine XS.icmpNo X0.here hx rfl (hb hby d1_66) rfl (teq hc23).2 ?_
                    show Steps p.tables e below (s₁.setTop (mkF m 69 #[.val (.int p1)] [])) _
                    refine st24 _ ?_
                    show Steps p.tables e below (T24.setTop (mkF m 72 #[.val (.int p1)] [(.ref (w 7))])) _
                    jvm_step X24.here [X24.here.top, hx, (hb hby d1_72), X24.method', Bd.returns, Value.isRef, FieldType.isReference]
                    first | (intro acts; rw [hr _ acts rfl rfl rfl]) | rw [hr _ _ rfl rfl rfl]
                    exact Steps.refl _
                  · show Q_rm1 Z p1 w r h0 n0 _ T24.heap _
                    rw [e24]
                    exact ⟨by rw [← hret]; simp only [pickA, if_neg hc2, if_neg hc5, if_neg hc8, if_neg hc11, if_neg hc14, if_neg hc17, if_neg hc20, if_pos hc23], N0, rfl⟩
                · have pre25 : ∀ t, Steps p.tables e below (s₁.setTop (mkF m 76 #[.val (.int p1)] [(.int (8 : Int32)), (.int p1)])) t → Steps p.tables e below (s₁.setTop (entryFrame m #[(.int p1)] 1)) t := fun t k => pre22 t (by
                      show Steps p.tables e below (s₁.setTop (mkF m 66 #[.val (.int p1)] [(.int (7 : Int32)), (.int p1)])) _
                      refine XS.icmpYes X0.here hx rfl (pc0 := 66) (pc' := 73) rfl (hb hby d1_66) rfl (feq hc23).2 (by decide) (by decide) ?_
                      show Steps p.tables e below (s₁.setTop (mkF m 73 #[.val (.int p1)] [])) _
                      refine XS.iloadN X0.here hx rfl (hb hby d1_73) rfl ?_
                      show Steps p.tables e below (s₁.setTop (mkF m 74 #[.val (.int p1)] [(.int p1)])) _
                      refine XS.bipush X0.here hx rfl (hb hby d1_74) ?_
                      exact k)
                  by_cases hc26 : p1 = (8 : Int32)
                  · obtain ⟨T27, X27, e27, st27⟩ := getS2 X0 hx hZ hown (host := "") (Or.inl (hw _ (List.mem_of_getElem? (i := 34) rfl))) Via.refl e0 S_KATAKANA (g := (mkF m 79 #[.val (.int p1)] [])) rfl (hb hby d1_79)
                    obtain ⟨fs, hr, hrun, hended, hW, hsame⟩ := X27.leave (v := some (.ref (w 8))) (fun h => by rw [Bd.returns] at h; cases h)
                    refine ⟨_, _, pre25 _ ?_, hrun, hended, _, _, rfl, ?_, ⟨_, rfl⟩, hW, hsame.mono (by decide) (by decide)⟩
                    · show Steps p.tables e below (s₁.setTop (mkF m 76 #[.val (.int p1)] [(.int (8 : Int32)), (.int p1)])) _
                      refine XS.icmpNo X0.here hx rfl (hb hby d1_76) rfl (teq hc26).2 ?_
                      show Steps p.tables e below (s₁.setTop (mkF m 79 #[.val (.int p1)] [])) _
                      refine st27 _ ?_
                      show Steps p.tables e below (T27.setTop (mkF m 82 #[.val (.int p1)] [(.ref (w 8))])) _
                      jvm_step X27.here [X27.here.top, hx, (hb hby d1_82), X27.method', Bd.returns, Value.isRef, FieldType.isReference]
                      first | (intro acts; rw [hr _ acts rfl rfl rfl]) | rw [hr _ _ rfl rfl rfl]
                      exact Steps.refl _
                    · show Q_rm1 Z p1 w r h0 n0 _ T27.heap _
                      rw [e27]
                      exact ⟨by rw [← hret]; simp only [pickA, if_neg hc2, if_neg hc5, if_neg hc8, if_neg hc11, if_neg hc14, if_neg hc17, if_neg hc20, if_neg hc23, if_pos hc26], N0, rfl⟩
                  · have pre28 : ∀ t, Steps p.tables e below (s₁.setTop (mkF m 86 #[.val (.int p1)] [(.int (9 : Int32)), (.int p1)])) t → Steps p.tables e below (s₁.setTop (entryFrame m #[(.int p1)] 1)) t := fun t k => pre25 t (by
                        show Steps p.tables e below (s₁.setTop (mkF m 76 #[.val (.int p1)] [(.int (8 : Int32)), (.int p1)])) _
                        refine XS.icmpYes X0.here hx rfl (pc0 := 76) (pc' := 83) rfl (hb hby d1_76) rfl (feq hc26).2 (by decide) (by decide) ?_
                        show Steps p.tables e below (s₁.setTop (mkF m 83 #[.val (.int p1)] [])) _
                        refine XS.iloadN X0.here hx rfl (hb hby d1_83) rfl ?_
                        show Steps p.tables e below (s₁.setTop (mkF m 84 #[.val (.int p1)] [(.int p1)])) _
                        refine XS.bipush X0.here hx rfl (hb hby d1_84) ?_
                        exact k)
                    by_cases hc29 : p1 = (9 : Int32)
                    · obtain ⟨T30, X30, e30, st30⟩ := getS2 X0 hx hZ hown (host := "") (Or.inl (hw _ (List.mem_of_getElem? (i := 45) rfl))) Via.refl e0 S_EXTEND_NUM_LET (g := (mkF m 89 #[.val (.int p1)] [])) rfl (hb hby d1_89)
                      obtain ⟨fs, hr, hrun, hended, hW, hsame⟩ := X30.leave (v := some (.ref (w 9))) (fun h => by rw [Bd.returns] at h; cases h)
                      refine ⟨_, _, pre28 _ ?_, hrun, hended, _, _, rfl, ?_, ⟨_, rfl⟩, hW, hsame.mono (by decide) (by decide)⟩
                      · show Steps p.tables e below (s₁.setTop (mkF m 86 #[.val (.int p1)] [(.int (9 : Int32)), (.int p1)])) _
                        refine XS.icmpNo X0.here hx rfl (hb hby d1_86) rfl (teq hc29).2 ?_
                        show Steps p.tables e below (s₁.setTop (mkF m 89 #[.val (.int p1)] [])) _
                        refine st30 _ ?_
                        show Steps p.tables e below (T30.setTop (mkF m 92 #[.val (.int p1)] [(.ref (w 9))])) _
                        jvm_step X30.here [X30.here.top, hx, (hb hby d1_92), X30.method', Bd.returns, Value.isRef, FieldType.isReference]
                        first | (intro acts; rw [hr _ acts rfl rfl rfl]) | rw [hr _ _ rfl rfl rfl]
                        exact Steps.refl _
                      · show Q_rm1 Z p1 w r h0 n0 _ T30.heap _
                        rw [e30]
                        exact ⟨by rw [← hret]; simp only [pickA, if_neg hc2, if_neg hc5, if_neg hc8, if_neg hc11, if_neg hc14, if_neg hc17, if_neg hc20, if_neg hc23, if_neg hc26, if_pos hc29], N0, rfl⟩
                    · have pre31 : ∀ t, Steps p.tables e below (s₁.setTop (mkF m 96 #[.val (.int p1)] [(.int (10 : Int32)), (.int p1)])) t → Steps p.tables e below (s₁.setTop (entryFrame m #[(.int p1)] 1)) t := fun t k => pre28 t (by
                          show Steps p.tables e below (s₁.setTop (mkF m 86 #[.val (.int p1)] [(.int (9 : Int32)), (.int p1)])) _
                          refine XS.icmpYes X0.here hx rfl (pc0 := 86) (pc' := 93) rfl (hb hby d1_86) rfl (feq hc29).2 (by decide) (by decide) ?_
                          show Steps p.tables e below (s₁.setTop (mkF m 93 #[.val (.int p1)] [])) _
                          refine XS.iloadN X0.here hx rfl (hb hby d1_93) rfl ?_
                          show Steps p.tables e below (s₁.setTop (mkF m 94 #[.val (.int p1)] [(.int p1)])) _
                          refine XS.bipush X0.here hx rfl (hb hby d1_94) ?_
                          exact k)
                      by_cases hc32 : p1 = (10 : Int32)
                      · obtain ⟨T33, X33, e33, st33⟩ := getS2 X0 hx hZ hown (host := "") (Or.inl (hw _ (List.mem_of_getElem? (i := 27) rfl))) Via.refl e0 S_SOUTHEAST_ASIAN (g := (mkF m 99 #[.val (.int p1)] [])) rfl (hb hby d1_99)
                        obtain ⟨fs, hr, hrun, hended, hW, hsame⟩ := X33.leave (v := some (.ref (w 10))) (fun h => by rw [Bd.returns] at h; cases h)
                        refine ⟨_, _, pre31 _ ?_, hrun, hended, _, _, rfl, ?_, ⟨_, rfl⟩, hW, hsame.mono (by decide) (by decide)⟩
                        · show Steps p.tables e below (s₁.setTop (mkF m 96 #[.val (.int p1)] [(.int (10 : Int32)), (.int p1)])) _
                          refine XS.icmpNo X0.here hx rfl (hb hby d1_96) rfl (teq hc32).2 ?_
                          show Steps p.tables e below (s₁.setTop (mkF m 99 #[.val (.int p1)] [])) _
                          refine st33 _ ?_
                          show Steps p.tables e below (T33.setTop (mkF m 102 #[.val (.int p1)] [(.ref (w 10))])) _
                          jvm_step X33.here [X33.here.top, hx, (hb hby d1_102), X33.method', Bd.returns, Value.isRef, FieldType.isReference]
                          first | (intro acts; rw [hr _ acts rfl rfl rfl]) | rw [hr _ _ rfl rfl rfl]
                          exact Steps.refl _
                        · show Q_rm1 Z p1 w r h0 n0 _ T33.heap _
                          rw [e33]
                          exact ⟨by rw [← hret]; simp only [pickA, if_neg hc2, if_neg hc5, if_neg hc8, if_neg hc11, if_neg hc14, if_neg hc17, if_neg hc20, if_neg hc23, if_neg hc26, if_neg hc29, if_pos hc32], N0, rfl⟩
                      · have pre34 : ∀ t, Steps p.tables e below (s₁.setTop (mkF m 106 #[.val (.int p1)] [(.int (11 : Int32)), (.int p1)])) t → Steps p.tables e below (s₁.setTop (entryFrame m #[(.int p1)] 1)) t := fun t k => pre31 t (by
                            show Steps p.tables e below (s₁.setTop (mkF m 96 #[.val (.int p1)] [(.int (10 : Int32)), (.int p1)])) _
                            refine XS.icmpYes X0.here hx rfl (pc0 := 96) (pc' := 103) rfl (hb hby d1_96) rfl (feq hc32).2 (by decide) (by decide) ?_
                            show Steps p.tables e below (s₁.setTop (mkF m 103 #[.val (.int p1)] [])) _
                            refine XS.iloadN X0.here hx rfl (hb hby d1_103) rfl ?_
                            show Steps p.tables e below (s₁.setTop (mkF m 104 #[.val (.int p1)] [(.int p1)])) _
                            refine XS.bipush X0.here hx rfl (hb hby d1_104) ?_
                            exact k)
                        by_cases hc35 : p1 = (11 : Int32)
                        · obtain ⟨T36, X36, e36, st36⟩ := getS2 X0 hx hZ hown (host := "") (Or.inl (hw _ (List.mem_of_getElem? (i := 33) rfl))) Via.refl e0 S_MID_LETTER (g := (mkF m 109 #[.val (.int p1)] [])) rfl (hb hby d1_109)
                          obtain ⟨fs, hr, hrun, hended, hW, hsame⟩ := X36.leave (v := some (.ref (w 11))) (fun h => by rw [Bd.returns] at h; cases h)
                          refine ⟨_, _, pre34 _ ?_, hrun, hended, _, _, rfl, ?_, ⟨_, rfl⟩, hW, hsame.mono (by decide) (by decide)⟩
                          · show Steps p.tables e below (s₁.setTop (mkF m 106 #[.val (.int p1)] [(.int (11 : Int32)), (.int p1)])) _
                            refine XS.icmpNo X0.here hx rfl (hb hby d1_106) rfl (teq hc35).2 ?_
                            show Steps p.tables e below (s₁.setTop (mkF m 109 #[.val (.int p1)] [])) _
                            refine st36 _ ?_
                            show Steps p.tables e below (T36.setTop (mkF m 112 #[.val (.int p1)] [(.ref (w 11))])) _
                            jvm_step X36.here [X36.here.top, hx, (hb hby d1_112), X36.method', Bd.returns, Value.isRef, FieldType.isReference]
                            first | (intro acts; rw [hr _ acts rfl rfl rfl]) | rw [hr _ _ rfl rfl rfl]
                            exact Steps.refl _
                          · show Q_rm1 Z p1 w r h0 n0 _ T36.heap _
                            rw [e36]
                            exact ⟨by rw [← hret]; simp only [pickA, if_neg hc2, if_neg hc5, if_neg hc8, if_neg hc11, if_neg hc14, if_neg hc17, if_neg hc20, if_neg hc23, if_neg hc26, if_neg hc29, if_neg hc32, if_pos hc35], N0, rfl⟩
                        · have pre37 : ∀ t, Steps p.tables e below (s₁.setTop (mkF m 116 #[.val (.int p1)] [(.int (12 : Int32)), (.int p1)])) t → Steps p.tables e below (s₁.setTop (entryFrame m #[(.int p1)] 1)) t := fun t k => pre34 t (by
                              show Steps p.tables e below (s₁.setTop (mkF m 106 #[.val (.int p1)] [(.int (11 : Int32)), (.int p1)])) _
                              refine XS.icmpYes X0.here hx rfl (pc0 := 106) (pc' := 113) rfl (hb hby d1_106) rfl (feq hc35).2 (by decide) (by decide) ?_
                              show Steps p.tables e below (s₁.setTop (mkF m 113 #[.val (.int p1)] [])) _
                              refine XS.iloadN X0.here hx rfl (hb hby d1_113) rfl ?_
                              show Steps p.tables e below (s₁.setTop (mkF m 114 #[.val (.int p1)] [(.int p1)])) _
                              refine XS.bipush X0.here hx rfl (hb hby d1_114) ?_
                              exact k)
                          by_cases hc38 : p1 = (12 : Int32)
                          · obtain ⟨T39, X39, e39, st39⟩ := getS2 X0 hx hZ hown (host := "") (Or.inl (hw _ (List.mem_of_getElem? (i := 40) rfl))) Via.refl e0 S_MID_NUM (g := (mkF m 119 #[.val (.int p1)] [])) rfl (hb hby d1_119)
                            obtain ⟨fs, hr, hrun, hended, hW, hsame⟩ := X39.leave (v := some (.ref (w 12))) (fun h => by rw [Bd.returns] at h; cases h)
                            refine ⟨_, _, pre37 _ ?_, hrun, hended, _, _, rfl, ?_, ⟨_, rfl⟩, hW, hsame.mono (by decide) (by decide)⟩
                            · show Steps p.tables e below (s₁.setTop (mkF m 116 #[.val (.int p1)] [(.int (12 : Int32)), (.int p1)])) _
                              refine XS.icmpNo X0.here hx rfl (hb hby d1_116) rfl (teq hc38).2 ?_
                              show Steps p.tables e below (s₁.setTop (mkF m 119 #[.val (.int p1)] [])) _
                              refine st39 _ ?_
                              show Steps p.tables e below (T39.setTop (mkF m 122 #[.val (.int p1)] [(.ref (w 12))])) _
                              jvm_step X39.here [X39.here.top, hx, (hb hby d1_122), X39.method', Bd.returns, Value.isRef, FieldType.isReference]
                              first | (intro acts; rw [hr _ acts rfl rfl rfl]) | rw [hr _ _ rfl rfl rfl]
                              exact Steps.refl _
                            · show Q_rm1 Z p1 w r h0 n0 _ T39.heap _
                              rw [e39]
                              exact ⟨by rw [← hret]; simp only [pickA, if_neg hc2, if_neg hc5, if_neg hc8, if_neg hc11, if_neg hc14, if_neg hc17, if_neg hc20, if_neg hc23, if_neg hc26, if_neg hc29, if_neg hc32, if_neg hc35, if_pos hc38], N0, rfl⟩
                          · have pre40 : ∀ t, Steps p.tables e below (s₁.setTop (mkF m 126 #[.val (.int p1)] [(.int (13 : Int32)), (.int p1)])) t → Steps p.tables e below (s₁.setTop (entryFrame m #[(.int p1)] 1)) t := fun t k => pre37 t (by
                                show Steps p.tables e below (s₁.setTop (mkF m 116 #[.val (.int p1)] [(.int (12 : Int32)), (.int p1)])) _
                                refine XS.icmpYes X0.here hx rfl (pc0 := 116) (pc' := 123) rfl (hb hby d1_116) rfl (feq hc38).2 (by decide) (by decide) ?_
                                show Steps p.tables e below (s₁.setTop (mkF m 123 #[.val (.int p1)] [])) _
                                refine XS.iloadN X0.here hx rfl (hb hby d1_123) rfl ?_
                                show Steps p.tables e below (s₁.setTop (mkF m 124 #[.val (.int p1)] [(.int p1)])) _
                                refine XS.bipush X0.here hx rfl (hb hby d1_124) ?_
                                exact k)
                            by_cases hc41 : p1 = (13 : Int32)
                            · obtain ⟨T42, X42, e42, st42⟩ := getS2 X0 hx hZ hown (host := "") (Or.inl (hw _ (List.mem_of_getElem? (i := 42) rfl))) Via.refl e0 S_MID_NUM_LET (g := (mkF m 129 #[.val (.int p1)] [])) rfl (hb hby d1_129)
                              obtain ⟨fs, hr, hrun, hended, hW, hsame⟩ := X42.leave (v := some (.ref (w 13))) (fun h => by rw [Bd.returns] at h; cases h)
                              refine ⟨_, _, pre40 _ ?_, hrun, hended, _, _, rfl, ?_, ⟨_, rfl⟩, hW, hsame.mono (by decide) (by decide)⟩
                              · show Steps p.tables e below (s₁.setTop (mkF m 126 #[.val (.int p1)] [(.int (13 : Int32)), (.int p1)])) _
                                refine XS.icmpNo X0.here hx rfl (hb hby d1_126) rfl (teq hc41).2 ?_
                                show Steps p.tables e below (s₁.setTop (mkF m 129 #[.val (.int p1)] [])) _
                                refine st42 _ ?_
                                show Steps p.tables e below (T42.setTop (mkF m 132 #[.val (.int p1)] [(.ref (w 13))])) _
                                jvm_step X42.here [X42.here.top, hx, (hb hby d1_132), X42.method', Bd.returns, Value.isRef, FieldType.isReference]
                                first | (intro acts; rw [hr _ acts rfl rfl rfl]) | rw [hr _ _ rfl rfl rfl]
                                exact Steps.refl _
                              · show Q_rm1 Z p1 w r h0 n0 _ T42.heap _
                                rw [e42]
                                exact ⟨by rw [← hret]; simp only [pickA, if_neg hc2, if_neg hc5, if_neg hc8, if_neg hc11, if_neg hc14, if_neg hc17, if_neg hc20, if_neg hc23, if_neg hc26, if_neg hc29, if_neg hc32, if_neg hc35, if_neg hc38, if_pos hc41], N0, rfl⟩
                            · have pre43 : ∀ t, Steps p.tables e below (s₁.setTop (mkF m 136 #[.val (.int p1)] [(.int (14 : Int32)), (.int p1)])) t → Steps p.tables e below (s₁.setTop (entryFrame m #[(.int p1)] 1)) t := fun t k => pre40 t (by
                                  show Steps p.tables e below (s₁.setTop (mkF m 126 #[.val (.int p1)] [(.int (13 : Int32)), (.int p1)])) _
                                  refine XS.icmpYes X0.here hx rfl (pc0 := 126) (pc' := 133) rfl (hb hby d1_126) rfl (feq hc41).2 (by decide) (by decide) ?_
                                  show Steps p.tables e below (s₁.setTop (mkF m 133 #[.val (.int p1)] [])) _
                                  refine XS.iloadN X0.here hx rfl (hb hby d1_133) rfl ?_
                                  show Steps p.tables e below (s₁.setTop (mkF m 134 #[.val (.int p1)] [(.int p1)])) _
                                  refine XS.bipush X0.here hx rfl (hb hby d1_134) ?_
                                  exact k)
                              by_cases hc44 : p1 = (14 : Int32)
                              · obtain ⟨T45, X45, e45, st45⟩ := getS2 X0 hx hZ hown (host := "") (Or.inl (hw _ (List.mem_of_getElem? (i := 24) rfl))) Via.refl e0 S_SINGLE_QUOTE (g := (mkF m 139 #[.val (.int p1)] [])) rfl (hb hby d1_139)
                                obtain ⟨fs, hr, hrun, hended, hW, hsame⟩ := X45.leave (v := some (.ref (w 14))) (fun h => by rw [Bd.returns] at h; cases h)
                                refine ⟨_, _, pre43 _ ?_, hrun, hended, _, _, rfl, ?_, ⟨_, rfl⟩, hW, hsame.mono (by decide) (by decide)⟩
                                · show Steps p.tables e below (s₁.setTop (mkF m 136 #[.val (.int p1)] [(.int (14 : Int32)), (.int p1)])) _
                                  refine XS.icmpNo X0.here hx rfl (hb hby d1_136) rfl (teq hc44).2 ?_
                                  show Steps p.tables e below (s₁.setTop (mkF m 139 #[.val (.int p1)] [])) _
                                  refine st45 _ ?_
                                  show Steps p.tables e below (T45.setTop (mkF m 142 #[.val (.int p1)] [(.ref (w 14))])) _
                                  jvm_step X45.here [X45.here.top, hx, (hb hby d1_142), X45.method', Bd.returns, Value.isRef, FieldType.isReference]
                                  first | (intro acts; rw [hr _ acts rfl rfl rfl]) | rw [hr _ _ rfl rfl rfl]
                                  exact Steps.refl _
                                · show Q_rm1 Z p1 w r h0 n0 _ T45.heap _
                                  rw [e45]
                                  exact ⟨by rw [← hret]; simp only [pickA, if_neg hc2, if_neg hc5, if_neg hc8, if_neg hc11, if_neg hc14, if_neg hc17, if_neg hc20, if_neg hc23, if_neg hc26, if_neg hc29, if_neg hc32, if_neg hc35, if_neg hc38, if_neg hc41, if_pos hc44], N0, rfl⟩
                              · obtain ⟨T46, X46, e46, st46⟩ := getS2 X0 hx hZ hown (host := "") (Or.inl (hw _ (List.mem_of_getElem? (i := 25) rfl))) Via.refl e0 S_DOUBLE_QUOTE (g := (mkF m 143 #[.val (.int p1)] [])) rfl (hb hby d1_143)
                                obtain ⟨fs, hr, hrun, hended, hW, hsame⟩ := X46.leave (v := some (.ref (w 15))) (fun h => by rw [Bd.returns] at h; cases h)
                                refine ⟨_, _, pre43 _ ?_, hrun, hended, _, _, rfl, ?_, ⟨_, rfl⟩, hW, hsame.mono (by decide) (by decide)⟩
                                · show Steps p.tables e below (s₁.setTop (mkF m 136 #[.val (.int p1)] [(.int (14 : Int32)), (.int p1)])) _
                                  refine XS.icmpYes X0.here hx rfl (pc0 := 136) (pc' := 143) rfl (hb hby d1_136) rfl (feq hc44).2 (by decide) (by decide) ?_
                                  show Steps p.tables e below (s₁.setTop (mkF m 143 #[.val (.int p1)] [])) _
                                  refine st46 _ ?_
                                  show Steps p.tables e below (T46.setTop (mkF m 146 #[.val (.int p1)] [(.ref (w 15))])) _
                                  jvm_step X46.here [X46.here.top, hx, (hb hby d1_146), X46.method', Bd.returns, Value.isRef, FieldType.isReference]
                                  first | (intro acts; rw [hr _ acts rfl rfl rfl]) | rw [hr _ _ rfl rfl rfl]
                                  exact Steps.refl _
                                · show Q_rm1 Z p1 w r h0 n0 _ T46.heap _
                                  rw [e46]
                                  exact ⟨by rw [← hret]; simp only [pickA, if_neg hc2, if_neg hc5, if_neg hc8, if_neg hc11, if_neg hc14, if_neg hc17, if_neg hc20, if_neg hc23, if_neg hc26, if_neg hc29, if_neg hc32, if_neg hc35, if_neg hc38, if_neg hc41, if_neg hc44], N0, rfl⟩
theorem d2_0 : decode prog_34_method_6_code 0 = .ok (.aload_n 0, 1) := by decide +kernel
theorem d2_1 : decode prog_34_method_6_code 1 = .ok (.getstatic 37, 3) := by decide +kernel
theorem d2_4 : decode prog_34_method_6_code 4 = .ok (.if_acmp .eq 17, 3) := by decide +kernel
theorem d2_7 : decode prog_34_method_6_code 7 = .ok (.aload_n 0, 1) := by decide +kernel
theorem d2_8 : decode prog_34_method_6_code 8 = .ok (.getstatic 43, 3) := by decide +kernel
theorem d2_11 : decode prog_34_method_6_code 11 = .ok (.if_acmp .eq 10, 3) := by decide +kernel
theorem d2_14 : decode prog_34_method_6_code 14 = .ok (.aload_n 0, 1) := by decide +kernel
theorem d2_15 : decode prog_34_method_6_code 15 = .ok (.getstatic 46, 3) := by decide +kernel
theorem d2_18 : decode prog_34_method_6_code 18 = .ok (.if_acmp .ne 7, 3) := by decide +kernel
theorem d2_21 : decode prog_34_method_6_code 21 = .ok (.iconst 1, 1) := by decide +kernel
theorem d2_22 : decode prog_34_method_6_code 22 = .ok (.goto 4, 3) := by decide +kernel
theorem d2_25 : decode prog_34_method_6_code 25 = .ok (.iconst 0, 1) := by decide +kernel
theorem d2_26 : decode prog_34_method_6_code 26 = .ok (.ireturn, 1) := by decide +kernel
theorem pn_rm2 : plainName "com/example/omomi/omomi/WordBreak" = true := by first | (simp [plainName, overriddenIn]; done) | decide +kernel
theorem ef_rm2 (m : MethodId) (a1 : Addr) : entryFrame m #[(.ref a1)] 1 = mkF m 0 #[.val (.ref a1)] [] := by first | (simp [entryFrame, mkF, argsToLocals, Value.category]; done) | rfl
def Q_rm2 (Z : State) (a1 : Addr) (w : Nat → Addr) (r : Int32) (h0 : Heap) (n0 : Nat) (v : Option Value) (h : Heap) (L : List Loc) : Prop := v = some (.int r) ∧ Fr n0 L ∧ h = h0
set_option maxRecDepth 65536 in
set_option maxHeartbeats 40000000 in
theorem rm2 (l : Launch) (Z : State) (a0 : Array Value) (hw : ∀ d ∈ tables_1, d.before a0 Z = true) (ws : List Jvm.Cond) (a1 : Addr) (w : Nat → Addr) (r : Int32) (h0 : Heap) (n0 : Nat) (Z0 : n0 ≤ h0.size) (S_MID_LETTER : Sta Z h0 "com/example/omomi/omomi/WordBreak" "MID_LETTER" "Lcom/example/omomi/omomi/WordBreak;" (.ref (w 11))) (S_MID_NUM_LET : Sta Z h0 "com/example/omomi/omomi/WordBreak" "MID_NUM_LET" "Lcom/example/omomi/omomi/WordBreak;" (.ref (w 13))) (S_SINGLE_QUOTE : Sta Z h0 "com/example/omomi/omomi/WordBreak" "SINGLE_QUOTE" "Lcom/example/omomi/omomi/WordBreak;" (.ref (w 14))) (hret : betw a1 w = r) :
    MetFree l (⟨"com/example/omomi/omomi/WordBreak", "isBetweenLetters", "()Z"⟩ : MethodName) (head1 (Jvm.Cond.code (⟨"com/example/omomi/omomi/WordBreak", "isBetweenLetters", "()Z"⟩ : MethodName) prog_34_method_6_code 1 (some .boolean) :: ws) ({ frames := 0, cells := 0, slots := 0, locals := 0 } : Room)) (fun a U => a = #[(.ref a1)] ∧ Z.Warmed39 U.vm ∧ U.heap = h0) (fun _ _ _ _ _ => True) (fun _ U o U' => ∃ v L, o = .returned v ∧ Q_rm2 Z a1 w r h0 n0 v U'.heap L ∧ FrameEnd U o U' L ({ frames := 0, cells := 0, slots := 0, locals := 0 } : Room).cells ({ frames := 0, cells := 0, slots := 0, locals := 0 } : Room).slots) := by
  refine MetFree.of_bodySF (plainFor_of_name pn_rm2) hisR ?_
  intro p e s m args below meth c s₁ Bd hml0 hP hK
  obtain ⟨rfl, hZ, hh⟩ := hP
  have hx := Bd.exec
  have hby := Bd.bytes
  have hml : c.maxLocals = 1 := hml0
  have hown : s.vm.findClass "com/example/omomi/omomi/WordBreak" = some m.cls := findClass_of_methodNamed Bd.named
  have hnm := (name_of_methodNamed Bd.named Bd.method).1
  have X0 : Stand p l e ({ frames := 0, cells := 0, slots := 0, locals := 0 } : Room) s m #[(.ref a1)] below meth c s₁ [] 0 0 := Stand.of_body Bd
  have e0 : s₁.heap = h0 := by rw [← hh, Bd.state]; rfl
  have N0 := Fr.nil n0
  have pre0 : ∀ t, Steps p.tables e below (s₁.setTop (mkF m 0 #[.val (.ref a1)] [])) t → Steps p.tables e below (s₁.setTop (entryFrame m #[(.ref a1)] 1)) t := fun t k => castTop (ef_rm2 m a1) k
  obtain ⟨T1, X1, e1, st1⟩ := getS2 X0 hx hZ hown (host := "") (Or.inl (hw _ (List.mem_of_getElem? (i := 13) rfl))) Via.refl e0 S_MID_LETTER (g := (mkF m 1 #[.val (.ref a1)] [(.ref a1)])) rfl (hb hby d2_1)
  have pre2 : ∀ t, Steps p.tables e below (T1.setTop (mkF m 4 #[.val (.ref a1)] [(.ref (w 11)), (.ref a1)])) t → Steps p.tables e below (s₁.setTop (entryFrame m #[(.ref a1)] 1)) t := fun t k => pre0 t (by
      show Steps p.tables e below (s₁.setTop (mkF m 0 #[.val (.ref a1)] [])) _
      refine XS.aloadN X0.here hx rfl (hb hby d2_0) rfl rfl ?_
      show Steps p.tables e below (s₁.setTop (mkF m 1 #[.val (.ref a1)] [(.ref a1)])) _
      refine st1 _ ?_
      exact k)
  by_cases hc3 : a1 = (w 11)
  · obtain ⟨fs, hr, hrun, hended, hW, hsame⟩ := X1.leave (v := some (.int (1 : Int32))) (fun h => by rw [Bd.returns] at h; cases h)
    refine ⟨_, _, pre2 _ ?_, hrun, hended, _, _, rfl, ?_, ⟨_, rfl⟩, hW, hsame.mono (by decide) (by decide)⟩
    · show Steps p.tables e below (T1.setTop (mkF m 4 #[.val (.ref a1)] [(.ref (w 11)), (.ref a1)])) _
      refine Jvm.RoadKit.acmp (g := (mkF m 4 #[.val (.ref a1)] [(.ref (w 11)), (.ref a1)])) X1 hx rfl rfl rfl (pc0 := 4) (pc' := 21) (same := true) rfl (hb hby d2_4) rfl (decide_eq_true (congrArg Value.ref hc3)) (by decide) (by decide) ?_
      show Steps p.tables e below (T1.setTop (mkF m 21 #[.val (.ref a1)] [])) _
      refine XS.iconst X1.here hx rfl (hb hby d2_21) ?_
      show Steps p.tables e below (T1.setTop (mkF m 22 #[.val (.ref a1)] [(.int (1 : Int32))])) _
      refine XS.goto X1.here hx rfl (pc0 := 22) (pc' := 26) rfl (hb hby d2_22) (by decide) (by decide) ?_
      show Steps p.tables e below (T1.setTop (mkF m 26 #[.val (.ref a1)] [(.int (1 : Int32))])) _
      exact retN X1 hx (t := .boolean) Bd.returns (by simp) (hb hby d2_26) hr
    · show Q_rm2 Z a1 w r h0 n0 _ T1.heap _
      rw [e1]
      exact ⟨by rw [← hret]; simp only [betw, if_pos hc3], N0, rfl⟩
  · obtain ⟨T4, X4, e4, st4⟩ := getS2 X1 hx hZ hown (host := "") (Or.inl (hw _ (List.mem_of_getElem? (i := 15) rfl))) Via.refl e1 S_MID_NUM_LET (g := (mkF m 8 #[.val (.ref a1)] [(.ref a1)])) rfl (hb hby d2_8)
    have pre5 : ∀ t, Steps p.tables e below (T4.setTop (mkF m 11 #[.val (.ref a1)] [(.ref (w 13)), (.ref a1)])) t → Steps p.tables e below (s₁.setTop (entryFrame m #[(.ref a1)] 1)) t := fun t k => pre2 t (by
        show Steps p.tables e below (T1.setTop (mkF m 4 #[.val (.ref a1)] [(.ref (w 11)), (.ref a1)])) _
        refine Jvm.RoadKit.acmp (g := (mkF m 4 #[.val (.ref a1)] [(.ref (w 11)), (.ref a1)])) X1 hx rfl rfl rfl (pc0 := 4) (pc' := 7) (same := false) rfl (hb hby d2_4) rfl (decide_eq_false fun q => hc3 (Value.ref.inj q)) (by decide) (by decide) ?_
        show Steps p.tables e below (T1.setTop (mkF m 7 #[.val (.ref a1)] [])) _
        refine XS.aloadN X1.here hx rfl (hb hby d2_7) rfl rfl ?_
        show Steps p.tables e below (T1.setTop (mkF m 8 #[.val (.ref a1)] [(.ref a1)])) _
        refine st4 _ ?_
        exact k)
    by_cases hc6 : a1 = (w 13)
    · obtain ⟨fs, hr, hrun, hended, hW, hsame⟩ := X4.leave (v := some (.int (1 : Int32))) (fun h => by rw [Bd.returns] at h; cases h)
      refine ⟨_, _, pre5 _ ?_, hrun, hended, _, _, rfl, ?_, ⟨_, rfl⟩, hW, hsame.mono (by decide) (by decide)⟩
      · show Steps p.tables e below (T4.setTop (mkF m 11 #[.val (.ref a1)] [(.ref (w 13)), (.ref a1)])) _
        refine Jvm.RoadKit.acmp (g := (mkF m 11 #[.val (.ref a1)] [(.ref (w 13)), (.ref a1)])) X4 hx rfl rfl rfl (pc0 := 11) (pc' := 21) (same := true) rfl (hb hby d2_11) rfl (decide_eq_true (congrArg Value.ref hc6)) (by decide) (by decide) ?_
        show Steps p.tables e below (T4.setTop (mkF m 21 #[.val (.ref a1)] [])) _
        refine XS.iconst X4.here hx rfl (hb hby d2_21) ?_
        show Steps p.tables e below (T4.setTop (mkF m 22 #[.val (.ref a1)] [(.int (1 : Int32))])) _
        refine XS.goto X4.here hx rfl (pc0 := 22) (pc' := 26) rfl (hb hby d2_22) (by decide) (by decide) ?_
        show Steps p.tables e below (T4.setTop (mkF m 26 #[.val (.ref a1)] [(.int (1 : Int32))])) _
        exact retN X4 hx (t := .boolean) Bd.returns (by simp) (hb hby d2_26) hr
      · show Q_rm2 Z a1 w r h0 n0 _ T4.heap _
        rw [e4]
        exact ⟨by rw [← hret]; simp only [betw, if_neg hc3, if_pos hc6], N0, rfl⟩
    · obtain ⟨T7, X7, e7, st7⟩ := getS2 X4 hx hZ hown (host := "") (Or.inl (hw _ (List.mem_of_getElem? (i := 17) rfl))) Via.refl e4 S_SINGLE_QUOTE (g := (mkF m 15 #[.val (.ref a1)] [(.ref a1)])) rfl (hb hby d2_15)
      have pre8 : ∀ t, Steps p.tables e below (T7.setTop (mkF m 18 #[.val (.ref a1)] [(.ref (w 14)), (.ref a1)])) t → Steps p.tables e below (s₁.setTop (entryFrame m #[(.ref a1)] 1)) t := fun t k => pre5 t (by
          show Steps p.tables e below (T4.setTop (mkF m 11 #[.val (.ref a1)] [(.ref (w 13)), (.ref a1)])) _
          refine Jvm.RoadKit.acmp (g := (mkF m 11 #[.val (.ref a1)] [(.ref (w 13)), (.ref a1)])) X4 hx rfl rfl rfl (pc0 := 11) (pc' := 14) (same := false) rfl (hb hby d2_11) rfl (decide_eq_false fun q => hc6 (Value.ref.inj q)) (by decide) (by decide) ?_
          show Steps p.tables e below (T4.setTop (mkF m 14 #[.val (.ref a1)] [])) _
          refine XS.aloadN X4.here hx rfl (hb hby d2_14) rfl rfl ?_
          show Steps p.tables e below (T4.setTop (mkF m 15 #[.val (.ref a1)] [(.ref a1)])) _
          refine st7 _ ?_
          exact k)
      by_cases hc9 : a1 = (w 14)
      · obtain ⟨fs, hr, hrun, hended, hW, hsame⟩ := X7.leave (v := some (.int (1 : Int32))) (fun h => by rw [Bd.returns] at h; cases h)
        refine ⟨_, _, pre8 _ ?_, hrun, hended, _, _, rfl, ?_, ⟨_, rfl⟩, hW, hsame.mono (by decide) (by decide)⟩
        · show Steps p.tables e below (T7.setTop (mkF m 18 #[.val (.ref a1)] [(.ref (w 14)), (.ref a1)])) _
          refine Jvm.RoadKit.acmp (g := (mkF m 18 #[.val (.ref a1)] [(.ref (w 14)), (.ref a1)])) X7 hx rfl rfl rfl (pc0 := 18) (pc' := 21) (same := true) rfl (hb hby d2_18) rfl (decide_eq_true (congrArg Value.ref hc9)) (by decide) (by decide) ?_
          show Steps p.tables e below (T7.setTop (mkF m 21 #[.val (.ref a1)] [])) _
          refine XS.iconst X7.here hx rfl (hb hby d2_21) ?_
          show Steps p.tables e below (T7.setTop (mkF m 22 #[.val (.ref a1)] [(.int (1 : Int32))])) _
          refine XS.goto X7.here hx rfl (pc0 := 22) (pc' := 26) rfl (hb hby d2_22) (by decide) (by decide) ?_
          show Steps p.tables e below (T7.setTop (mkF m 26 #[.val (.ref a1)] [(.int (1 : Int32))])) _
          exact retN X7 hx (t := .boolean) Bd.returns (by simp) (hb hby d2_26) hr
        · show Q_rm2 Z a1 w r h0 n0 _ T7.heap _
          rw [e7]
          exact ⟨by rw [← hret]; simp only [betw, if_neg hc3, if_neg hc6, if_pos hc9], N0, rfl⟩
      · obtain ⟨fs, hr, hrun, hended, hW, hsame⟩ := X7.leave (v := some (.int (0 : Int32))) (fun h => by rw [Bd.returns] at h; cases h)
        refine ⟨_, _, pre8 _ ?_, hrun, hended, _, _, rfl, ?_, ⟨_, rfl⟩, hW, hsame.mono (by decide) (by decide)⟩
        · show Steps p.tables e below (T7.setTop (mkF m 18 #[.val (.ref a1)] [(.ref (w 14)), (.ref a1)])) _
          refine Jvm.RoadKit.acmp (g := (mkF m 18 #[.val (.ref a1)] [(.ref (w 14)), (.ref a1)])) X7 hx rfl rfl rfl (pc0 := 18) (pc' := 25) (same := false) rfl (hb hby d2_18) rfl (decide_eq_false fun q => hc9 (Value.ref.inj q)) (by decide) (by decide) ?_
          show Steps p.tables e below (T7.setTop (mkF m 25 #[.val (.ref a1)] [])) _
          refine XS.iconst X7.here hx rfl (hb hby d2_25) ?_
          show Steps p.tables e below (T7.setTop (mkF m 26 #[.val (.ref a1)] [(.int (0 : Int32))])) _
          exact retN X7 hx (t := .boolean) Bd.returns (by simp) (hb hby d2_26) hr
        · show Q_rm2 Z a1 w r h0 n0 _ T7.heap _
          rw [e7]
          exact ⟨by rw [← hret]; simp only [betw, if_neg hc3, if_neg hc6, if_neg hc9], N0, rfl⟩
theorem d3_0 : decode method_3_code 0 = .ok (.iload_n 0, 1) := by decide +kernel
theorem d3_1 : decode method_3_code 1 = .ok (.bipush 11, 2) := by decide +kernel
theorem d3_3 : decode method_3_code 3 = .ok (.if_icmp .eq 15, 3) := by decide +kernel
theorem d3_6 : decode method_3_code 6 = .ok (.iload_n 0, 1) := by decide +kernel
theorem d3_7 : decode method_3_code 7 = .ok (.bipush 13, 2) := by decide +kernel
theorem d3_9 : decode method_3_code 9 = .ok (.if_icmp .eq 9, 3) := by decide +kernel
theorem d3_12 : decode method_3_code 12 = .ok (.iload_n 0, 1) := by decide +kernel
theorem d3_13 : decode method_3_code 13 = .ok (.bipush 14, 2) := by decide +kernel
theorem d3_15 : decode method_3_code 15 = .ok (.if_icmp .ne 7, 3) := by decide +kernel
theorem d3_18 : decode method_3_code 18 = .ok (.iconst 1, 1) := by decide +kernel
theorem d3_19 : decode method_3_code 19 = .ok (.goto 4, 3) := by decide +kernel
theorem d3_22 : decode method_3_code 22 = .ok (.iconst 0, 1) := by decide +kernel
theorem d3_23 : decode method_3_code 23 = .ok (.ireturn, 1) := by decide +kernel
theorem pn_rm3 : plainName "com/example/omomi/omomi/WordBreakIsBetweenLettersPinLaw" = true := by first | (simp [plainName, overriddenIn]; done) | decide +kernel
theorem ef_rm3 (m : MethodId) (p1 : Int32) : entryFrame m #[(.int p1)] 1 = mkF m 0 #[.val (.int p1)] [] := by first | (simp [entryFrame, mkF, argsToLocals, Value.category]; done) | rfl
def Q_rm3 (Z : State) (p1 : Int32) (r : Int32) (h0 : Heap) (n0 : Nat) (v : Option Value) (h : Heap) (L : List Loc) : Prop := v = some (.int r) ∧ Fr n0 L ∧ h = h0
set_option maxRecDepth 65536 in
set_option maxHeartbeats 40000000 in
theorem rm3 (l : Launch) (Z : State) (a0 : Array Value) (hw : ∀ d ∈ tables_1, d.before a0 Z = true) (ws : List Jvm.Cond) (p1 : Int32) (r : Int32) (h0 : Heap) (n0 : Nat) (Z0 : n0 ≤ h0.size) (hret : expd p1 = r) :
    MetFree l (⟨"com/example/omomi/omomi/WordBreakIsBetweenLettersPinLaw", "expected", "(I)Z"⟩ : MethodName) (head1 (Jvm.Cond.code (⟨"com/example/omomi/omomi/WordBreakIsBetweenLettersPinLaw", "expected", "(I)Z"⟩ : MethodName) method_3_code 1 (some .boolean) :: ws) ({ frames := 0, cells := 0, slots := 0, locals := 0 } : Room)) (fun a U => a = #[(.int p1)] ∧ Z.Warmed39 U.vm ∧ U.heap = h0) (fun _ _ _ _ _ => True) (fun _ U o U' => ∃ v L, o = .returned v ∧ Q_rm3 Z p1 r h0 n0 v U'.heap L ∧ FrameEnd U o U' L ({ frames := 0, cells := 0, slots := 0, locals := 0 } : Room).cells ({ frames := 0, cells := 0, slots := 0, locals := 0 } : Room).slots) := by
  refine MetFree.of_bodySF (plainFor_of_name pn_rm3) hisR ?_
  intro p e s m args below meth c s₁ Bd hml0 hP hK
  obtain ⟨rfl, hZ, hh⟩ := hP
  have hx := Bd.exec
  have hby := Bd.bytes
  have hml : c.maxLocals = 1 := hml0
  have hown : s.vm.findClass "com/example/omomi/omomi/WordBreakIsBetweenLettersPinLaw" = some m.cls := findClass_of_methodNamed Bd.named
  have hnm := (name_of_methodNamed Bd.named Bd.method).1
  have X0 : Stand p l e ({ frames := 0, cells := 0, slots := 0, locals := 0 } : Room) s m #[(.int p1)] below meth c s₁ [] 0 0 := Stand.of_body Bd
  have e0 : s₁.heap = h0 := by rw [← hh, Bd.state]; rfl
  have N0 := Fr.nil n0
  have pre0 : ∀ t, Steps p.tables e below (s₁.setTop (mkF m 0 #[.val (.int p1)] [])) t → Steps p.tables e below (s₁.setTop (entryFrame m #[(.int p1)] 1)) t := fun t k => castTop (ef_rm3 m p1) k
  have pre1 : ∀ t, Steps p.tables e below (s₁.setTop (mkF m 3 #[.val (.int p1)] [(.int (11 : Int32)), (.int p1)])) t → Steps p.tables e below (s₁.setTop (entryFrame m #[(.int p1)] 1)) t := fun t k => pre0 t (by
      show Steps p.tables e below (s₁.setTop (mkF m 0 #[.val (.int p1)] [])) _
      refine XS.iloadN X0.here hx rfl (hb hby d3_0) rfl ?_
      show Steps p.tables e below (s₁.setTop (mkF m 1 #[.val (.int p1)] [(.int p1)])) _
      refine XS.bipush X0.here hx rfl (hb hby d3_1) ?_
      exact k)
  by_cases hc2 : p1 = (11 : Int32)
  · obtain ⟨fs, hr, hrun, hended, hW, hsame⟩ := X0.leave (v := some (.int (1 : Int32))) (fun h => by rw [Bd.returns] at h; cases h)
    refine ⟨_, _, pre1 _ ?_, hrun, hended, _, _, rfl, ?_, ⟨_, rfl⟩, hW, hsame.mono (by decide) (by decide)⟩
    · show Steps p.tables e below (s₁.setTop (mkF m 3 #[.val (.int p1)] [(.int (11 : Int32)), (.int p1)])) _
      refine XS.icmpYes X0.here hx rfl (pc0 := 3) (pc' := 18) rfl (hb hby d3_3) rfl (teq hc2).1 (by decide) (by decide) ?_
      show Steps p.tables e below (s₁.setTop (mkF m 18 #[.val (.int p1)] [])) _
      refine XS.iconst X0.here hx rfl (hb hby d3_18) ?_
      show Steps p.tables e below (s₁.setTop (mkF m 19 #[.val (.int p1)] [(.int (1 : Int32))])) _
      refine XS.goto X0.here hx rfl (pc0 := 19) (pc' := 23) rfl (hb hby d3_19) (by decide) (by decide) ?_
      show Steps p.tables e below (s₁.setTop (mkF m 23 #[.val (.int p1)] [(.int (1 : Int32))])) _
      exact retN X0 hx (t := .boolean) Bd.returns (by simp) (hb hby d3_23) hr
    · show Q_rm3 Z p1 r h0 n0 _ s₁.heap _
      rw [e0]
      exact ⟨by rw [← hret]; simp only [expd, if_pos hc2], N0, rfl⟩
  · have pre3 : ∀ t, Steps p.tables e below (s₁.setTop (mkF m 9 #[.val (.int p1)] [(.int (13 : Int32)), (.int p1)])) t → Steps p.tables e below (s₁.setTop (entryFrame m #[(.int p1)] 1)) t := fun t k => pre1 t (by
        show Steps p.tables e below (s₁.setTop (mkF m 3 #[.val (.int p1)] [(.int (11 : Int32)), (.int p1)])) _
        refine XS.icmpNo X0.here hx rfl (hb hby d3_3) rfl (feq hc2).1 ?_
        show Steps p.tables e below (s₁.setTop (mkF m 6 #[.val (.int p1)] [])) _
        refine XS.iloadN X0.here hx rfl (hb hby d3_6) rfl ?_
        show Steps p.tables e below (s₁.setTop (mkF m 7 #[.val (.int p1)] [(.int p1)])) _
        refine XS.bipush X0.here hx rfl (hb hby d3_7) ?_
        exact k)
    by_cases hc4 : p1 = (13 : Int32)
    · obtain ⟨fs, hr, hrun, hended, hW, hsame⟩ := X0.leave (v := some (.int (1 : Int32))) (fun h => by rw [Bd.returns] at h; cases h)
      refine ⟨_, _, pre3 _ ?_, hrun, hended, _, _, rfl, ?_, ⟨_, rfl⟩, hW, hsame.mono (by decide) (by decide)⟩
      · show Steps p.tables e below (s₁.setTop (mkF m 9 #[.val (.int p1)] [(.int (13 : Int32)), (.int p1)])) _
        refine XS.icmpYes X0.here hx rfl (pc0 := 9) (pc' := 18) rfl (hb hby d3_9) rfl (teq hc4).1 (by decide) (by decide) ?_
        show Steps p.tables e below (s₁.setTop (mkF m 18 #[.val (.int p1)] [])) _
        refine XS.iconst X0.here hx rfl (hb hby d3_18) ?_
        show Steps p.tables e below (s₁.setTop (mkF m 19 #[.val (.int p1)] [(.int (1 : Int32))])) _
        refine XS.goto X0.here hx rfl (pc0 := 19) (pc' := 23) rfl (hb hby d3_19) (by decide) (by decide) ?_
        show Steps p.tables e below (s₁.setTop (mkF m 23 #[.val (.int p1)] [(.int (1 : Int32))])) _
        exact retN X0 hx (t := .boolean) Bd.returns (by simp) (hb hby d3_23) hr
      · show Q_rm3 Z p1 r h0 n0 _ s₁.heap _
        rw [e0]
        exact ⟨by rw [← hret]; simp only [expd, if_neg hc2, if_pos hc4], N0, rfl⟩
    · have pre5 : ∀ t, Steps p.tables e below (s₁.setTop (mkF m 15 #[.val (.int p1)] [(.int (14 : Int32)), (.int p1)])) t → Steps p.tables e below (s₁.setTop (entryFrame m #[(.int p1)] 1)) t := fun t k => pre3 t (by
          show Steps p.tables e below (s₁.setTop (mkF m 9 #[.val (.int p1)] [(.int (13 : Int32)), (.int p1)])) _
          refine XS.icmpNo X0.here hx rfl (hb hby d3_9) rfl (feq hc4).1 ?_
          show Steps p.tables e below (s₁.setTop (mkF m 12 #[.val (.int p1)] [])) _
          refine XS.iloadN X0.here hx rfl (hb hby d3_12) rfl ?_
          show Steps p.tables e below (s₁.setTop (mkF m 13 #[.val (.int p1)] [(.int p1)])) _
          refine XS.bipush X0.here hx rfl (hb hby d3_13) ?_
          exact k)
      by_cases hc6 : p1 = (14 : Int32)
      · obtain ⟨fs, hr, hrun, hended, hW, hsame⟩ := X0.leave (v := some (.int (1 : Int32))) (fun h => by rw [Bd.returns] at h; cases h)
        refine ⟨_, _, pre5 _ ?_, hrun, hended, _, _, rfl, ?_, ⟨_, rfl⟩, hW, hsame.mono (by decide) (by decide)⟩
        · show Steps p.tables e below (s₁.setTop (mkF m 15 #[.val (.int p1)] [(.int (14 : Int32)), (.int p1)])) _
          refine XS.icmpNo X0.here hx rfl (hb hby d3_15) rfl (teq hc6).2 ?_
          show Steps p.tables e below (s₁.setTop (mkF m 18 #[.val (.int p1)] [])) _
          refine XS.iconst X0.here hx rfl (hb hby d3_18) ?_
          show Steps p.tables e below (s₁.setTop (mkF m 19 #[.val (.int p1)] [(.int (1 : Int32))])) _
          refine XS.goto X0.here hx rfl (pc0 := 19) (pc' := 23) rfl (hb hby d3_19) (by decide) (by decide) ?_
          show Steps p.tables e below (s₁.setTop (mkF m 23 #[.val (.int p1)] [(.int (1 : Int32))])) _
          exact retN X0 hx (t := .boolean) Bd.returns (by simp) (hb hby d3_23) hr
        · show Q_rm3 Z p1 r h0 n0 _ s₁.heap _
          rw [e0]
          exact ⟨by rw [← hret]; simp only [expd, if_neg hc2, if_neg hc4, if_pos hc6], N0, rfl⟩
      · obtain ⟨fs, hr, hrun, hended, hW, hsame⟩ := X0.leave (v := some (.int (0 : Int32))) (fun h => by rw [Bd.returns] at h; cases h)
        refine ⟨_, _, pre5 _ ?_, hrun, hended, _, _, rfl, ?_, ⟨_, rfl⟩, hW, hsame.mono (by decide) (by decide)⟩
        · show Steps p.tables e below (s₁.setTop (mkF m 15 #[.val (.int p1)] [(.int (14 : Int32)), (.int p1)])) _
          refine XS.icmpYes X0.here hx rfl (pc0 := 15) (pc' := 22) rfl (hb hby d3_15) rfl (feq hc6).2 (by decide) (by decide) ?_
          show Steps p.tables e below (s₁.setTop (mkF m 22 #[.val (.int p1)] [])) _
          refine XS.iconst X0.here hx rfl (hb hby d3_22) ?_
          show Steps p.tables e below (s₁.setTop (mkF m 23 #[.val (.int p1)] [(.int (0 : Int32))])) _
          exact retN X0 hx (t := .boolean) Bd.returns (by simp) (hb hby d3_23) hr
        · show Q_rm3 Z p1 r h0 n0 _ s₁.heap _
          rw [e0]
          exact ⟨by rw [← hret]; simp only [expd, if_neg hc2, if_neg hc4, if_neg hc6], N0, rfl⟩
theorem pn_rm0 : plainName "com/example/omomi/omomi/WordBreakIsBetweenLettersPinLaw" = true := by first | (simp [plainName, overriddenIn]; done) | decide +kernel
theorem pd_rm0_0 : parseMethodDescriptor "(I)Lcom/example/omomi/omomi/WordBreak;" = some ⟨[.int], some (.object "com/example/omomi/omomi/WordBreak")⟩ := by decide +kernel
theorem pd_rm0_1 : parseMethodDescriptor "()Z" = some ⟨[], some .boolean⟩ := by decide +kernel
theorem pd_rm0_2 : parseMethodDescriptor "(I)Z" = some ⟨[.int], some .boolean⟩ := by decide +kernel
theorem ef_rm0 (m : MethodId) (p1 : Int32) : entryFrame m #[(.int p1)] maxLocals = mkF m 0 #[.val (.int p1), .unset, .unset] [] := by first | (simp [entryFrame, mkF, argsToLocals, Value.category, maxLocals]; done) | rfl
def Q_rm0 (Z : State) (p1 : Int32) (w : Nat → Addr) (h0 : Heap) (n0 : Nat) (v : Option Value) (h : Heap) (L : List Loc) : Prop := v = some (.int (1 : Int32)) ∧ Fr n0 L
set_option maxRecDepth 65536 in
set_option maxHeartbeats 40000000 in
theorem rm0 (l : Launch) (Z : State) (a0 : Array Value) (hw : ∀ d ∈ tables_1, d.before a0 Z = true) (ws : List Jvm.Cond) (p1 : Int32) (w : Nat → Addr) (h0 : Heap) (n0 : Nat) (Z0 : n0 ≤ h0.size) (S_OTHER : Sta Z h0 "com/example/omomi/omomi/WordBreak" "OTHER" "Lcom/example/omomi/omomi/WordBreak;" (.ref (w 0))) (S_NEWLINE : Sta Z h0 "com/example/omomi/omomi/WordBreak" "NEWLINE" "Lcom/example/omomi/omomi/WordBreak;" (.ref (w 1))) (S_EXTEND : Sta Z h0 "com/example/omomi/omomi/WordBreak" "EXTEND" "Lcom/example/omomi/omomi/WordBreak;" (.ref (w 2))) (S_REGIONAL_INDICATOR : Sta Z h0 "com/example/omomi/omomi/WordBreak" "REGIONAL_INDICATOR" "Lcom/example/omomi/omomi/WordBreak;" (.ref (w 3))) (S_W_SEG_SPACE : Sta Z h0 "com/example/omomi/omomi/WordBreak" "W_SEG_SPACE" "Lcom/example/omomi/omomi/WordBreak;" (.ref (w 4))) (S_A_LETTER : Sta Z h0 "com/example/omomi/omomi/WordBreak" "A_LETTER" "Lcom/example/omomi/omomi/WordBreak;" (.ref (w 5))) (S_HEBREW_LETTER : Sta Z h0 "com/example/omomi/omomi/WordBreak" "HEBREW_LETTER" "Lcom/example/omomi/omomi/WordBreak;" (.ref (w 6))) (S_NUMERIC : Sta Z h0 "com/example/omomi/omomi/WordBreak" "NUMERIC" "Lcom/example/omomi/omomi/WordBreak;" (.ref (w 7))) (S_KATAKANA : Sta Z h0 "com/example/omomi/omomi/WordBreak" "KATAKANA" "Lcom/example/omomi/omomi/WordBreak;" (.ref (w 8))) (S_EXTEND_NUM_LET : Sta Z h0 "com/example/omomi/omomi/WordBreak" "EXTEND_NUM_LET" "Lcom/example/omomi/omomi/WordBreak;" (.ref (w 9))) (S_SOUTHEAST_ASIAN : Sta Z h0 "com/example/omomi/omomi/WordBreak" "SOUTHEAST_ASIAN" "Lcom/example/omomi/omomi/WordBreak;" (.ref (w 10))) (S_MID_LETTER : Sta Z h0 "com/example/omomi/omomi/WordBreak" "MID_LETTER" "Lcom/example/omomi/omomi/WordBreak;" (.ref (w 11))) (S_MID_NUM : Sta Z h0 "com/example/omomi/omomi/WordBreak" "MID_NUM" "Lcom/example/omomi/omomi/WordBreak;" (.ref (w 12))) (S_MID_NUM_LET : Sta Z h0 "com/example/omomi/omomi/WordBreak" "MID_NUM_LET" "Lcom/example/omomi/omomi/WordBreak;" (.ref (w 13))) (S_SINGLE_QUOTE : Sta Z h0 "com/example/omomi/omomi/WordBreak" "SINGLE_QUOTE" "Lcom/example/omomi/omomi/WordBreak;" (.ref (w 14))) (S_DOUBLE_QUOTE : Sta Z h0 "com/example/omomi/omomi/WordBreak" "DOUBLE_QUOTE" "Lcom/example/omomi/omomi/WordBreak;" (.ref (w 15))) (hexa : Exa Z h0 (pickA ((p1 &&& (2147483647 : Int32)) % (16 : Int32)) w) "com/example/omomi/omomi/WordBreak") (hfin : betw (pickA ((p1 &&& (2147483647 : Int32)) % (16 : Int32)) w) w = expd ((p1 &&& (2147483647 : Int32)) % (16 : Int32))) :
    MetFree l x (head1 (Jvm.Cond.code x code maxLocals ret :: ws) room_1) (fun a U => a = #[(.int p1)] ∧ Z.Warmed39 U.vm ∧ U.heap = h0) (fun _ _ _ _ _ => True) (fun _ U o U' => ∃ v L, o = .returned v ∧ Q_rm0 Z p1 w h0 n0 v U'.heap L ∧ FrameEnd U o U' L room_1.cells room_1.slots) := by
  refine MetFree.of_bodySF (plainFor_of_name pn_rm0) hisR ?_
  intro p e s m args below meth c s₁ Bd hml0 hP hK
  obtain ⟨rfl, hZ, hh⟩ := hP
  have hx := Bd.exec
  have hby := Bd.bytes
  have hml : c.maxLocals = 3 := hml0
  have hown : s.vm.findClass "com/example/omomi/omomi/WordBreakIsBetweenLettersPinLaw" = some m.cls := findClass_of_methodNamed Bd.named
  have hnm := (name_of_methodNamed Bd.named Bd.method).1
  have X0 : Stand p l e room_1 s m #[(.int p1)] below meth c s₁ [] 0 0 := Stand.of_body Bd
  have e0 : s₁.heap = h0 := by rw [← hh, Bd.state]; rfl
  have N0 := Fr.nil n0
  have pre0 : ∀ t, Steps p.tables e below (s₁.setTop (mkF m 0 #[.val (.int p1), .unset, .unset] [])) t → Steps p.tables e below (s₁.setTop (entryFrame m #[(.int p1)] maxLocals)) t := fun t k => castTop (ef_rm0 m p1) k
  obtain ⟨_, _, ⟨T1, L1, k1, n1⟩, -, X1, ⟨Lc1, hQ1, l1, y1, z1⟩, st1⟩ := Jvm.LawKit.callS X0 hx (y := (⟨"com/example/omomi/omomi/WordBreakIsBetweenLettersPinLaw", "pick", "(I)Lcom/example/omomi/omomi/WordBreak;"⟩ : MethodName)) hown (mvT hZ (hw _ (List.mem_of_getElem? (i := 1) rfl))) (mvT hZ (hw _ (List.mem_of_getElem? (i := 2) rfl))) (mvT hZ (hw _ (List.mem_of_getElem? (i := 3) rfl))) (mvT hZ (hw _ (List.mem_of_getElem? (i := 4) rfl))) (by decide) (backOf (W := 0) (rm1 l Z a0 hw [] ((p1 &&& (2147483647 : Int32)) % (16 : Int32)) w (pickA ((p1 &&& (2147483647 : Int32)) % (16 : Int32)) w) h0 n0 Z0 S_OTHER S_NEWLINE S_EXTEND S_REGIONAL_INDICATOR S_W_SEG_SPACE S_A_LETTER S_HEBREW_LETTER S_NUMERIC S_KATAKANA S_EXTEND_NUM_LET S_SOUTHEAST_ASIAN S_MID_LETTER S_MID_NUM S_MID_NUM_LET S_SINGLE_QUOTE S_DOUBLE_QUOTE rfl) hZ (hw _ (List.mem_of_getElem? (i := 4) rfl)) (hw _ (List.mem_of_getElem? (i := 3) rfl)) (by decide) (by decide)) (g := (mkF m 9 #[.val (.int p1), .val (.int ((p1 &&& (2147483647 : Int32)) % (16 : Int32))), .unset] [(.int ((p1 &&& (2147483647 : Int32)) % (16 : Int32)))])) rfl (by rw [hml]; rfl) (argsL := [(.int ((p1 &&& (2147483647 : Int32)) % (16 : Int32)))]) (rest := []) (lenOf pd_rm0_0 rfl) rfl (by show 2 * 0 + _ ≤ _; exact Nat.le_of_eq rfl) (hb hby at_9) (fun _ _ => ⟨rfl, e0, (by decide : 0 + 0 ≤ _), (by decide : 0 + 0 ≤ _)⟩)
  dsimp only [Pt.U, Pt.locs, Pt.cells, Pt.slots] at X1 l1 y1 z1 st1 hQ1
  subst l1 y1 z1
  obtain ⟨rfl, N1q, e1⟩ := hQ1
  have N1 := Fr.app N0 N1q
  obtain ⟨cq2, kq2, q2a, q2b, q2c⟩ := isOf hZ e1 hexa
  obtain ⟨_, _, ⟨T2, L2, k2, n2⟩, -, X2, ⟨Lc2, hQ2, l2, y2, z2⟩, st2⟩ := X1.virtualBack hx (y := (⟨"com/example/omomi/omomi/WordBreak", "isBetweenLetters", "()Z"⟩ : MethodName)) (z := (⟨"com/example/omomi/omomi/WordBreak", "isBetweenLetters", "()Z"⟩ : MethodName)) hown (mvT hZ (hw _ (List.mem_of_getElem? (i := 8) rfl))) (mvT hZ (hw _ (List.mem_of_getElem? (i := 9) rfl))) (notFace_of_selects (args := #[]) (mvT hZ (hw _ (List.mem_of_getElem? (i := 11) rfl)))) (mvT hZ (hw _ (List.mem_of_getElem? (i := 11) rfl))) (mvT hZ (hw _ (List.mem_of_getElem? (i := 10) rfl))) (by decide) (backOf (W := 0) (rm2 l Z a0 hw [] (pickA ((p1 &&& (2147483647 : Int32)) % (16 : Int32)) w) w (betw (pickA ((p1 &&& (2147483647 : Int32)) % (16 : Int32)) w) w) h0 n0 Z0 S_MID_LETTER S_MID_NUM_LET S_SINGLE_QUOTE rfl) hZ (hw _ (List.mem_of_getElem? (i := 12) rfl)) (hw _ (List.mem_of_getElem? (i := 6) rfl)) (by decide) (by decide)) q2a q2c (g := (mkF m 14 #[.val (.int p1), .val (.int ((p1 &&& (2147483647 : Int32)) % (16 : Int32))), .val (.ref (pickA ((p1 &&& (2147483647 : Int32)) % (16 : Int32)) w))] [(.ref (pickA ((p1 &&& (2147483647 : Int32)) % (16 : Int32)) w))])) rfl (by rw [hml]; rfl) (Steps.refl _) (argsL := []) (rest := []) (lenOf pd_rm0_1 rfl) rfl (by show 2 * 0 + _ ≤ _; exact Nat.le_of_eq rfl) (hb hby at_14) (fun _ _ => ⟨rfl, e1, (by decide : 0 + 0 ≤ _), (by decide : 0 + 0 ≤ _)⟩)
  dsimp only [Pt.U, Pt.locs, Pt.cells, Pt.slots] at X2 l2 y2 z2 st2 hQ2
  subst l2 y2 z2
  obtain ⟨rfl, N2q, e2⟩ := hQ2
  have N2 := Fr.app N1 N2q
  obtain ⟨_, _, ⟨T3, L3, k3, n3⟩, -, X3, ⟨Lc3, hQ3, l3, y3, z3⟩, st3⟩ := Jvm.LawKit.callS X2 hx (y := (⟨"com/example/omomi/omomi/WordBreakIsBetweenLettersPinLaw", "expected", "(I)Z"⟩ : MethodName)) hown (mvT hZ (hw _ (List.mem_of_getElem? (i := 19) rfl))) (mvT hZ (hw _ (List.mem_of_getElem? (i := 20) rfl))) (mvT hZ (hw _ (List.mem_of_getElem? (i := 3) rfl))) (mvT hZ (hw _ (List.mem_of_getElem? (i := 21) rfl))) (by decide) (backOf (W := 1) (rm3 l Z a0 hw [] ((p1 &&& (2147483647 : Int32)) % (16 : Int32)) (expd ((p1 &&& (2147483647 : Int32)) % (16 : Int32))) h0 n0 Z0 rfl) hZ (hw _ (List.mem_of_getElem? (i := 21) rfl)) (hw _ (List.mem_of_getElem? (i := 3) rfl)) (by decide) (by decide)) (g := (mkF m 18 #[.val (.int p1), .val (.int ((p1 &&& (2147483647 : Int32)) % (16 : Int32))), .val (.ref (pickA ((p1 &&& (2147483647 : Int32)) % (16 : Int32)) w))] [(.int ((p1 &&& (2147483647 : Int32)) % (16 : Int32))), (.int (betw (pickA ((p1 &&& (2147483647 : Int32)) % (16 : Int32)) w) w))])) rfl (by rw [hml]; rfl) (argsL := [(.int ((p1 &&& (2147483647 : Int32)) % (16 : Int32)))]) (rest := [(.int (betw (pickA ((p1 &&& (2147483647 : Int32)) % (16 : Int32)) w) w))]) (lenOf pd_rm0_2 rfl) rfl (by show 2 * 0 + _ ≤ _; exact Nat.le_of_eq rfl) (hb hby at_18) (fun _ _ => ⟨rfl, e2, (by decide : 0 + 0 ≤ _), (by decide : 0 + 0 ≤ _)⟩)
  dsimp only [Pt.U, Pt.locs, Pt.cells, Pt.slots] at X3 l3 y3 z3 st3 hQ3
  subst l3 y3 z3
  obtain ⟨rfl, N3q, e3⟩ := hQ3
  have N3 := Fr.app N2 N3q
  obtain ⟨fs, hr, hrun, hended, hW, hsame⟩ := X3.leave (v := some (.int (1 : Int32))) (fun h => by rw [Bd.returns] at h; cases h)
  refine ⟨_, _, pre0 _ ?_, hrun, hended, _, _, rfl, ?_, ⟨_, rfl⟩, hW, hsame.mono (by decide) (by decide)⟩
  · show Steps p.tables e below (s₁.setTop (mkF m 0 #[.val (.int p1), .unset, .unset] [])) _
    refine XS.iloadN X0.here hx rfl (hb hby at_0) rfl ?_
    show Steps p.tables e below (s₁.setTop (mkF m 1 #[.val (.int p1), .unset, .unset] [(.int p1)])) _
    refine X0.ldcInt hx hown (mvT hZ (hw _ (List.mem_of_getElem? (i := 0) rfl))) (g := (mkF m 1 #[.val (.int p1), .unset, .unset] [(.int p1)])) rfl (hb hby at_1) _ ?_
    show Steps p.tables e below (s₁.setTop (mkF m 3 #[.val (.int p1), .unset, .unset] [(.int (2147483647 : Int32)), (.int p1)])) _
    refine XS.iand X0.here hx rfl (hb hby at_3) rfl ?_
    show Steps p.tables e below (s₁.setTop (mkF m 4 #[.val (.int p1), .unset, .unset] [(.int (p1 &&& (2147483647 : Int32)))])) _
    refine XS.bipush X0.here hx rfl (hb hby at_4) ?_
    show Steps p.tables e below (s₁.setTop (mkF m 6 #[.val (.int p1), .unset, .unset] [(.int (16 : Int32)), (.int (p1 &&& (2147483647 : Int32)))])) _
    refine Jvm.RoadKit.iremM (g := (mkF m 6 #[.val (.int p1), .unset, .unset] [(.int (16 : Int32)), (.int (p1 &&& (2147483647 : Int32)))])) X0 hx rfl (hb hby at_6) rfl (by decide) ?_
    show Steps p.tables e below (s₁.setTop (mkF m 7 #[.val (.int p1), .unset, .unset] [(.int ((p1 &&& (2147483647 : Int32)) % (16 : Int32)))])) _
    refine XS.istoreN X0.here hx rfl (hb hby at_7) rfl (l' := #[.val (.int p1), .val (.int ((p1 &&& (2147483647 : Int32)) % (16 : Int32))), .unset]) rfl ?_
    show Steps p.tables e below (s₁.setTop (mkF m 8 #[.val (.int p1), .val (.int ((p1 &&& (2147483647 : Int32)) % (16 : Int32))), .unset] [])) _
    refine XS.iloadN X0.here hx rfl (hb hby at_8) rfl ?_
    show Steps p.tables e below (s₁.setTop (mkF m 9 #[.val (.int p1), .val (.int ((p1 &&& (2147483647 : Int32)) % (16 : Int32))), .unset] [(.int ((p1 &&& (2147483647 : Int32)) % (16 : Int32)))])) _
    refine st1 _ ?_
    show Steps p.tables e below (T1.setTop (mkF m 12 #[.val (.int p1), .val (.int ((p1 &&& (2147483647 : Int32)) % (16 : Int32))), .unset] [(.ref (pickA ((p1 &&& (2147483647 : Int32)) % (16 : Int32)) w))])) _
    refine XS.astoreN X1.here hx rfl (hb hby at_12) rfl rfl (l' := #[.val (.int p1), .val (.int ((p1 &&& (2147483647 : Int32)) % (16 : Int32))), .val (.ref (pickA ((p1 &&& (2147483647 : Int32)) % (16 : Int32)) w))]) rfl ?_
    show Steps p.tables e below (T1.setTop (mkF m 13 #[.val (.int p1), .val (.int ((p1 &&& (2147483647 : Int32)) % (16 : Int32))), .val (.ref (pickA ((p1 &&& (2147483647 : Int32)) % (16 : Int32)) w))] [])) _
    refine XS.aloadN X1.here hx rfl (hb hby at_13) rfl rfl ?_
    show Steps p.tables e below (T1.setTop (mkF m 14 #[.val (.int p1), .val (.int ((p1 &&& (2147483647 : Int32)) % (16 : Int32))), .val (.ref (pickA ((p1 &&& (2147483647 : Int32)) % (16 : Int32)) w))] [(.ref (pickA ((p1 &&& (2147483647 : Int32)) % (16 : Int32)) w))])) _
    refine st2.trans ?_
    show Steps p.tables e below (T2.setTop (mkF m 17 #[.val (.int p1), .val (.int ((p1 &&& (2147483647 : Int32)) % (16 : Int32))), .val (.ref (pickA ((p1 &&& (2147483647 : Int32)) % (16 : Int32)) w))] [(.int (betw (pickA ((p1 &&& (2147483647 : Int32)) % (16 : Int32)) w) w))])) _
    refine XS.iloadN X2.here hx rfl (hb hby at_17) rfl ?_
    show Steps p.tables e below (T2.setTop (mkF m 18 #[.val (.int p1), .val (.int ((p1 &&& (2147483647 : Int32)) % (16 : Int32))), .val (.ref (pickA ((p1 &&& (2147483647 : Int32)) % (16 : Int32)) w))] [(.int ((p1 &&& (2147483647 : Int32)) % (16 : Int32))), (.int (betw (pickA ((p1 &&& (2147483647 : Int32)) % (16 : Int32)) w) w))])) _
    refine st3 _ ?_
    show Steps p.tables e below (T3.setTop (mkF m 21 #[.val (.int p1), .val (.int ((p1 &&& (2147483647 : Int32)) % (16 : Int32))), .val (.ref (pickA ((p1 &&& (2147483647 : Int32)) % (16 : Int32)) w))] [(.int (expd ((p1 &&& (2147483647 : Int32)) % (16 : Int32)))), (.int (betw (pickA ((p1 &&& (2147483647 : Int32)) % (16 : Int32)) w) w))])) _
    refine XS.icmpNo X3.here hx rfl (hb hby at_21) rfl (teq hfin).2 ?_
    show Steps p.tables e below (T3.setTop (mkF m 24 #[.val (.int p1), .val (.int ((p1 &&& (2147483647 : Int32)) % (16 : Int32))), .val (.ref (pickA ((p1 &&& (2147483647 : Int32)) % (16 : Int32)) w))] [])) _
    refine XS.iconst X3.here hx rfl (hb hby at_24) ?_
    show Steps p.tables e below (T3.setTop (mkF m 25 #[.val (.int p1), .val (.int ((p1 &&& (2147483647 : Int32)) % (16 : Int32))), .val (.ref (pickA ((p1 &&& (2147483647 : Int32)) % (16 : Int32)) w))] [(.int (1 : Int32))])) _
    refine XS.goto X3.here hx rfl (pc0 := 25) (pc' := 29) rfl (hb hby at_25) (by decide) (by decide) ?_
    show Steps p.tables e below (T3.setTop (mkF m 29 #[.val (.int p1), .val (.int ((p1 &&& (2147483647 : Int32)) % (16 : Int32))), .val (.ref (pickA ((p1 &&& (2147483647 : Int32)) % (16 : Int32)) w))] [(.int (1 : Int32))])) _
    exact retN X3 hx (t := .boolean) Bd.returns (by simp) (hb hby at_29) hr
  · show Q_rm0 Z p1 w h0 n0 _ T3.heap _
    rw [e3]
    exact ⟨rfl, N3⟩
set_option maxRecDepth 65536 in
set_option maxHeartbeats 40000000 in
theorem comes_1 {Post : Tables → Env → Array Value → State → Outcome → State → Prop} (hpost : ∀ tb e args s v u, (limb_1_1.after args s (.returned v) u = true ∧ limb_1_2.after args s (.returned v) u = true ∧ True) → FrameEnd s (.returned v) u (Jvm.fieldLocs frame_1_writes args s ++ Jvm.arrayLocs frame_1_arrays args s ++ Jvm.staticLocs frame_1_statics s) 0 0 → Post tb e args s (.returned v) u) :
    ArmFor flags0 classFile x code maxLocals ret World_1 tables_1 room_1 Calls_1 rest_1 Pre_1 Post := by
  intro l hfl _ _ p e ha hc hk s m args below hf hA hF happ hP
  obtain ⟨hcalls, hrest, hpre⟩ := hP
  obtain ⟨-, -, -, hnamed, -, -, -, hat⟩ := (Spec.applies_iff hf).mp happ
  obtain ⟨hg, hn⟩ := and_e (Cond.before_iff.mp (show (Jvm.Cond.and given_1 narrow_1).before args s = true from hpre))
  obtain ⟨hcount, hgs⟩ := and_e hg
  obtain ⟨w0, rfl⟩ : ∃ w0 : Value, args = #[w0] := by
    have hs : args.size = 1 := by simpa [Cond.value, given_1] using hcount
    obtain ⟨L⟩ := args
    match L, hs with
    | [w0], _ => exact ⟨w0, rfl⟩
  have hw := fun d (hd : d ∈ tables_1) => atoms_spec (ws := Jvm.Cond.code x code maxLocals ret :: tables_1) hat d (List.mem_cons_of_mem _ hd)
  have hfit : Fit s := fun {y c} hc i hi => by
    obtain ⟨ha, rfl⟩ := Array.getElem?_eq_some_iff.mp hc
    have q := List.all_eq_true.mp ((Array.all_eq_true_iff_forall_mem.mp hF) _ (Array.getElem_mem ha)) i (List.mem_range.mpr hi)
    simpa [Array.getElem?_eq_getElem hi] using q
  obtain ⟨i0, ei0⟩ := is_v hgs
  obtain rfl : w0 = (.int i0) := Option.some.inj ei0
  obtain ⟨c0, hr_0⟩ := and_e hn
  obtain ⟨c1, hr_1⟩ := and_e hr_0
  obtain ⟨c2, hr_2⟩ := and_e hr_1
  obtain ⟨c3, hr_3⟩ := and_e hr_2
  obtain ⟨c4, hr_4⟩ := and_e hr_3
  obtain ⟨c5, hr_5⟩ := and_e hr_4
  obtain ⟨c6, hr_6⟩ := and_e hr_5
  obtain ⟨c7, hr_7⟩ := and_e hr_6
  obtain ⟨c8, hr_8⟩ := and_e hr_7
  obtain ⟨c9, hr_9⟩ := and_e hr_8
  obtain ⟨c10, hr_10⟩ := and_e hr_9
  obtain ⟨c11, hr_11⟩ := and_e hr_10
  obtain ⟨c12, hr_12⟩ := and_e hr_11
  obtain ⟨c13, hr_13⟩ := and_e hr_12
  obtain ⟨c14, hr_14⟩ := and_e hr_13
  obtain ⟨c15, hr_15⟩ := and_e hr_14
  obtain ⟨c16, hr_16⟩ := and_e hr_15
  obtain ⟨c17, hr_17⟩ := and_e hr_16
  obtain ⟨c18, hr_18⟩ := and_e hr_17
  obtain ⟨c19, hr_19⟩ := and_e hr_18
  obtain ⟨c20, hr_20⟩ := and_e hr_19
  obtain ⟨c21, hr_21⟩ := and_e hr_20
  obtain ⟨c22, hr_22⟩ := and_e hr_21
  obtain ⟨c23, hr_23⟩ := and_e hr_22
  obtain ⟨c24, hr_24⟩ := and_e hr_23
  obtain ⟨c25, hr_25⟩ := and_e hr_24
  obtain ⟨c26, hr_26⟩ := and_e hr_25
  obtain ⟨c27, hr_27⟩ := and_e hr_26
  obtain ⟨c28, hr_28⟩ := and_e hr_27
  obtain ⟨c29, hr_29⟩ := and_e hr_28
  obtain ⟨c30, hr_30⟩ := and_e hr_29
  have c31 := hr_30
  obtain ⟨w_OTHER, ev_OTHER⟩ := exa_v c0
  have S_OTHER : Sta s s.heap "com/example/omomi/omomi/WordBreak" "OTHER" "Lcom/example/omomi/omomi/WordBreak;" (.ref w_OTHER) := Sta.start ev_OTHER (Or.inr ⟨(hw _ (List.mem_of_getElem? (i := 6) rfl)), (hw _ (List.mem_of_getElem? (i := 7) rfl))⟩)
  have E_OTHER : Exa s s.heap w_OTHER "com/example/omomi/omomi/WordBreak" := Exa.start ev_OTHER c0
  obtain ⟨w_MID_LETTER, ev_MID_LETTER⟩ := exa_v c1
  have S_MID_LETTER : Sta s s.heap "com/example/omomi/omomi/WordBreak" "MID_LETTER" "Lcom/example/omomi/omomi/WordBreak;" (.ref w_MID_LETTER) := Sta.start ev_MID_LETTER (Or.inr ⟨(hw _ (List.mem_of_getElem? (i := 6) rfl)), (hw _ (List.mem_of_getElem? (i := 14) rfl))⟩)
  have E_MID_LETTER : Exa s s.heap w_MID_LETTER "com/example/omomi/omomi/WordBreak" := Exa.start ev_MID_LETTER c1
  obtain ⟨w_MID_NUM_LET, ev_MID_NUM_LET⟩ := exa_v c4
  have S_MID_NUM_LET : Sta s s.heap "com/example/omomi/omomi/WordBreak" "MID_NUM_LET" "Lcom/example/omomi/omomi/WordBreak;" (.ref w_MID_NUM_LET) := Sta.start ev_MID_NUM_LET (Or.inr ⟨(hw _ (List.mem_of_getElem? (i := 6) rfl)), (hw _ (List.mem_of_getElem? (i := 16) rfl))⟩)
  have E_MID_NUM_LET : Exa s s.heap w_MID_NUM_LET "com/example/omomi/omomi/WordBreak" := Exa.start ev_MID_NUM_LET c4
  obtain ⟨w_SINGLE_QUOTE, ev_SINGLE_QUOTE⟩ := exa_v c6
  have S_SINGLE_QUOTE : Sta s s.heap "com/example/omomi/omomi/WordBreak" "SINGLE_QUOTE" "Lcom/example/omomi/omomi/WordBreak;" (.ref w_SINGLE_QUOTE) := Sta.start ev_SINGLE_QUOTE (Or.inr ⟨(hw _ (List.mem_of_getElem? (i := 6) rfl)), (hw _ (List.mem_of_getElem? (i := 18) rfl))⟩)
  have E_SINGLE_QUOTE : Exa s s.heap w_SINGLE_QUOTE "com/example/omomi/omomi/WordBreak" := Exa.start ev_SINGLE_QUOTE c6
  obtain ⟨w_REGIONAL_INDICATOR, ev_REGIONAL_INDICATOR⟩ := exa_v c8
  have S_REGIONAL_INDICATOR : Sta s s.heap "com/example/omomi/omomi/WordBreak" "REGIONAL_INDICATOR" "Lcom/example/omomi/omomi/WordBreak;" (.ref w_REGIONAL_INDICATOR) := Sta.start ev_REGIONAL_INDICATOR (Or.inr ⟨(hw _ (List.mem_of_getElem? (i := 6) rfl)), (hw _ (List.mem_of_getElem? (i := 23) rfl))⟩)
  have E_REGIONAL_INDICATOR : Exa s s.heap w_REGIONAL_INDICATOR "com/example/omomi/omomi/WordBreak" := Exa.start ev_REGIONAL_INDICATOR c8
  obtain ⟨w_DOUBLE_QUOTE, ev_DOUBLE_QUOTE⟩ := exa_v c10
  have S_DOUBLE_QUOTE : Sta s s.heap "com/example/omomi/omomi/WordBreak" "DOUBLE_QUOTE" "Lcom/example/omomi/omomi/WordBreak;" (.ref w_DOUBLE_QUOTE) := Sta.start ev_DOUBLE_QUOTE (Or.inr ⟨(hw _ (List.mem_of_getElem? (i := 6) rfl)), (hw _ (List.mem_of_getElem? (i := 26) rfl))⟩)
  have E_DOUBLE_QUOTE : Exa s s.heap w_DOUBLE_QUOTE "com/example/omomi/omomi/WordBreak" := Exa.start ev_DOUBLE_QUOTE c10
  obtain ⟨w_SOUTHEAST_ASIAN, ev_SOUTHEAST_ASIAN⟩ := exa_v c12
  have S_SOUTHEAST_ASIAN : Sta s s.heap "com/example/omomi/omomi/WordBreak" "SOUTHEAST_ASIAN" "Lcom/example/omomi/omomi/WordBreak;" (.ref w_SOUTHEAST_ASIAN) := Sta.start ev_SOUTHEAST_ASIAN (Or.inr ⟨(hw _ (List.mem_of_getElem? (i := 6) rfl)), (hw _ (List.mem_of_getElem? (i := 28) rfl))⟩)
  have E_SOUTHEAST_ASIAN : Exa s s.heap w_SOUTHEAST_ASIAN "com/example/omomi/omomi/WordBreak" := Exa.start ev_SOUTHEAST_ASIAN c12
  obtain ⟨w_NUMERIC, ev_NUMERIC⟩ := exa_v c14
  have S_NUMERIC : Sta s s.heap "com/example/omomi/omomi/WordBreak" "NUMERIC" "Lcom/example/omomi/omomi/WordBreak;" (.ref w_NUMERIC) := Sta.start ev_NUMERIC (Or.inr ⟨(hw _ (List.mem_of_getElem? (i := 6) rfl)), (hw _ (List.mem_of_getElem? (i := 30) rfl))⟩)
  have E_NUMERIC : Exa s s.heap w_NUMERIC "com/example/omomi/omomi/WordBreak" := Exa.start ev_NUMERIC c14
  obtain ⟨w_EXTEND, ev_EXTEND⟩ := exa_v c16
  have S_EXTEND : Sta s s.heap "com/example/omomi/omomi/WordBreak" "EXTEND" "Lcom/example/omomi/omomi/WordBreak;" (.ref w_EXTEND) := Sta.start ev_EXTEND (Or.inr ⟨(hw _ (List.mem_of_getElem? (i := 6) rfl)), (hw _ (List.mem_of_getElem? (i := 32) rfl))⟩)
  have E_EXTEND : Exa s s.heap w_EXTEND "com/example/omomi/omomi/WordBreak" := Exa.start ev_EXTEND c16
  obtain ⟨w_KATAKANA, ev_KATAKANA⟩ := exa_v c18
  have S_KATAKANA : Sta s s.heap "com/example/omomi/omomi/WordBreak" "KATAKANA" "Lcom/example/omomi/omomi/WordBreak;" (.ref w_KATAKANA) := Sta.start ev_KATAKANA (Or.inr ⟨(hw _ (List.mem_of_getElem? (i := 6) rfl)), (hw _ (List.mem_of_getElem? (i := 35) rfl))⟩)
  have E_KATAKANA : Exa s s.heap w_KATAKANA "com/example/omomi/omomi/WordBreak" := Exa.start ev_KATAKANA c18
  obtain ⟨w_NEWLINE, ev_NEWLINE⟩ := exa_v c20
  have S_NEWLINE : Sta s s.heap "com/example/omomi/omomi/WordBreak" "NEWLINE" "Lcom/example/omomi/omomi/WordBreak;" (.ref w_NEWLINE) := Sta.start ev_NEWLINE (Or.inr ⟨(hw _ (List.mem_of_getElem? (i := 6) rfl)), (hw _ (List.mem_of_getElem? (i := 37) rfl))⟩)
  have E_NEWLINE : Exa s s.heap w_NEWLINE "com/example/omomi/omomi/WordBreak" := Exa.start ev_NEWLINE c20
  obtain ⟨w_W_SEG_SPACE, ev_W_SEG_SPACE⟩ := exa_v c22
  have S_W_SEG_SPACE : Sta s s.heap "com/example/omomi/omomi/WordBreak" "W_SEG_SPACE" "Lcom/example/omomi/omomi/WordBreak;" (.ref w_W_SEG_SPACE) := Sta.start ev_W_SEG_SPACE (Or.inr ⟨(hw _ (List.mem_of_getElem? (i := 6) rfl)), (hw _ (List.mem_of_getElem? (i := 39) rfl))⟩)
  have E_W_SEG_SPACE : Exa s s.heap w_W_SEG_SPACE "com/example/omomi/omomi/WordBreak" := Exa.start ev_W_SEG_SPACE c22
  obtain ⟨w_MID_NUM, ev_MID_NUM⟩ := exa_v c24
  have S_MID_NUM : Sta s s.heap "com/example/omomi/omomi/WordBreak" "MID_NUM" "Lcom/example/omomi/omomi/WordBreak;" (.ref w_MID_NUM) := Sta.start ev_MID_NUM (Or.inr ⟨(hw _ (List.mem_of_getElem? (i := 6) rfl)), (hw _ (List.mem_of_getElem? (i := 41) rfl))⟩)
  have E_MID_NUM : Exa s s.heap w_MID_NUM "com/example/omomi/omomi/WordBreak" := Exa.start ev_MID_NUM c24
  obtain ⟨w_HEBREW_LETTER, ev_HEBREW_LETTER⟩ := exa_v c26
  have S_HEBREW_LETTER : Sta s s.heap "com/example/omomi/omomi/WordBreak" "HEBREW_LETTER" "Lcom/example/omomi/omomi/WordBreak;" (.ref w_HEBREW_LETTER) := Sta.start ev_HEBREW_LETTER (Or.inr ⟨(hw _ (List.mem_of_getElem? (i := 6) rfl)), (hw _ (List.mem_of_getElem? (i := 44) rfl))⟩)
  have E_HEBREW_LETTER : Exa s s.heap w_HEBREW_LETTER "com/example/omomi/omomi/WordBreak" := Exa.start ev_HEBREW_LETTER c26
  obtain ⟨w_EXTEND_NUM_LET, ev_EXTEND_NUM_LET⟩ := exa_v c28
  have S_EXTEND_NUM_LET : Sta s s.heap "com/example/omomi/omomi/WordBreak" "EXTEND_NUM_LET" "Lcom/example/omomi/omomi/WordBreak;" (.ref w_EXTEND_NUM_LET) := Sta.start ev_EXTEND_NUM_LET (Or.inr ⟨(hw _ (List.mem_of_getElem? (i := 6) rfl)), (hw _ (List.mem_of_getElem? (i := 46) rfl))⟩)
  have E_EXTEND_NUM_LET : Exa s s.heap w_EXTEND_NUM_LET "com/example/omomi/omomi/WordBreak" := Exa.start ev_EXTEND_NUM_LET c28
  obtain ⟨w_A_LETTER, ev_A_LETTER⟩ := exa_v c30
  have S_A_LETTER : Sta s s.heap "com/example/omomi/omomi/WordBreak" "A_LETTER" "Lcom/example/omomi/omomi/WordBreak;" (.ref w_A_LETTER) := Sta.start ev_A_LETTER (Or.inr ⟨(hw _ (List.mem_of_getElem? (i := 6) rfl)), (hw _ (List.mem_of_getElem? (i := 48) rfl))⟩)
  have E_A_LETTER : Exa s s.heap w_A_LETTER "com/example/omomi/omomi/WordBreak" := Exa.start ev_A_LETTER c30
  have O_OTHER : Fld s s.heap w_OTHER "java/lang/Enum" "ordinal" "I" (.int (0 : Int32)) := own_fld ev_OTHER c2
  have O_MID_LETTER : Fld s s.heap w_MID_LETTER "java/lang/Enum" "ordinal" "I" (.int (11 : Int32)) := own_fld ev_MID_LETTER c3
  have O_MID_NUM_LET : Fld s s.heap w_MID_NUM_LET "java/lang/Enum" "ordinal" "I" (.int (13 : Int32)) := own_fld ev_MID_NUM_LET c5
  have O_SINGLE_QUOTE : Fld s s.heap w_SINGLE_QUOTE "java/lang/Enum" "ordinal" "I" (.int (14 : Int32)) := own_fld ev_SINGLE_QUOTE c7
  have O_REGIONAL_INDICATOR : Fld s s.heap w_REGIONAL_INDICATOR "java/lang/Enum" "ordinal" "I" (.int (3 : Int32)) := own_fld ev_REGIONAL_INDICATOR c9
  have O_DOUBLE_QUOTE : Fld s s.heap w_DOUBLE_QUOTE "java/lang/Enum" "ordinal" "I" (.int (15 : Int32)) := own_fld ev_DOUBLE_QUOTE c11
  have O_SOUTHEAST_ASIAN : Fld s s.heap w_SOUTHEAST_ASIAN "java/lang/Enum" "ordinal" "I" (.int (10 : Int32)) := own_fld ev_SOUTHEAST_ASIAN c13
  have O_NUMERIC : Fld s s.heap w_NUMERIC "java/lang/Enum" "ordinal" "I" (.int (7 : Int32)) := own_fld ev_NUMERIC c15
  have O_EXTEND : Fld s s.heap w_EXTEND "java/lang/Enum" "ordinal" "I" (.int (2 : Int32)) := own_fld ev_EXTEND c17
  have O_KATAKANA : Fld s s.heap w_KATAKANA "java/lang/Enum" "ordinal" "I" (.int (8 : Int32)) := own_fld ev_KATAKANA c19
  have O_NEWLINE : Fld s s.heap w_NEWLINE "java/lang/Enum" "ordinal" "I" (.int (1 : Int32)) := own_fld ev_NEWLINE c21
  have O_W_SEG_SPACE : Fld s s.heap w_W_SEG_SPACE "java/lang/Enum" "ordinal" "I" (.int (4 : Int32)) := own_fld ev_W_SEG_SPACE c23
  have O_MID_NUM : Fld s s.heap w_MID_NUM "java/lang/Enum" "ordinal" "I" (.int (12 : Int32)) := own_fld ev_MID_NUM c25
  have O_HEBREW_LETTER : Fld s s.heap w_HEBREW_LETTER "java/lang/Enum" "ordinal" "I" (.int (6 : Int32)) := own_fld ev_HEBREW_LETTER c27
  have O_EXTEND_NUM_LET : Fld s s.heap w_EXTEND_NUM_LET "java/lang/Enum" "ordinal" "I" (.int (9 : Int32)) := own_fld ev_EXTEND_NUM_LET c29
  have O_A_LETTER : Fld s s.heap w_A_LETTER "java/lang/Enum" "ordinal" "I" (.int (5 : Int32)) := own_fld ev_A_LETTER c31
  obtain ⟨w, y0, y1, y2, y3, y4, y5, y6, y7, y8, y9, y10, y11, y12, y13, y14, y15⟩ : ∃ w : Nat → Addr, w 0 = w_OTHER ∧ w 1 = w_NEWLINE ∧ w 2 = w_EXTEND ∧ w 3 = w_REGIONAL_INDICATOR ∧ w 4 = w_W_SEG_SPACE ∧ w 5 = w_A_LETTER ∧ w 6 = w_HEBREW_LETTER ∧ w 7 = w_NUMERIC ∧ w 8 = w_KATAKANA ∧ w 9 = w_EXTEND_NUM_LET ∧ w 10 = w_SOUTHEAST_ASIAN ∧ w 11 = w_MID_LETTER ∧ w 12 = w_MID_NUM ∧ w 13 = w_MID_NUM_LET ∧ w 14 = w_SINGLE_QUOTE ∧ w 15 = w_DOUBLE_QUOTE := ⟨fun n => [w_OTHER, w_NEWLINE, w_EXTEND, w_REGIONAL_INDICATOR, w_W_SEG_SPACE, w_A_LETTER, w_HEBREW_LETTER, w_NUMERIC, w_KATAKANA, w_EXTEND_NUM_LET, w_SOUTHEAST_ASIAN, w_MID_LETTER, w_MID_NUM, w_MID_NUM_LET, w_SINGLE_QUOTE, w_DOUBLE_QUOTE].getD n 0, rfl, rfl, rfl, rfl, rfl, rfl, rfl, rfl, rfl, rfl, rfl, rfl, rfl, rfl, rfl, rfl⟩
  subst y0 y1 y2 y3 y4 y5 y6 y7 y8 y9 y10 y11 y12 y13 y14 y15
  have n_0_11 : ¬ w 0 = w 11 := own_ne O_OTHER O_MID_LETTER (by decide)
  have n_0_13 : ¬ w 0 = w 13 := own_ne O_OTHER O_MID_NUM_LET (by decide)
  have n_0_14 : ¬ w 0 = w 14 := own_ne O_OTHER O_SINGLE_QUOTE (by decide)
  have n_1_11 : ¬ w 1 = w 11 := own_ne O_NEWLINE O_MID_LETTER (by decide)
  have n_1_13 : ¬ w 1 = w 13 := own_ne O_NEWLINE O_MID_NUM_LET (by decide)
  have n_1_14 : ¬ w 1 = w 14 := own_ne O_NEWLINE O_SINGLE_QUOTE (by decide)
  have n_2_11 : ¬ w 2 = w 11 := own_ne O_EXTEND O_MID_LETTER (by decide)
  have n_2_13 : ¬ w 2 = w 13 := own_ne O_EXTEND O_MID_NUM_LET (by decide)
  have n_2_14 : ¬ w 2 = w 14 := own_ne O_EXTEND O_SINGLE_QUOTE (by decide)
  have n_3_11 : ¬ w 3 = w 11 := own_ne O_REGIONAL_INDICATOR O_MID_LETTER (by decide)
  have n_3_13 : ¬ w 3 = w 13 := own_ne O_REGIONAL_INDICATOR O_MID_NUM_LET (by decide)
  have n_3_14 : ¬ w 3 = w 14 := own_ne O_REGIONAL_INDICATOR O_SINGLE_QUOTE (by decide)
  have n_4_11 : ¬ w 4 = w 11 := own_ne O_W_SEG_SPACE O_MID_LETTER (by decide)
  have n_4_13 : ¬ w 4 = w 13 := own_ne O_W_SEG_SPACE O_MID_NUM_LET (by decide)
  have n_4_14 : ¬ w 4 = w 14 := own_ne O_W_SEG_SPACE O_SINGLE_QUOTE (by decide)
  have n_5_11 : ¬ w 5 = w 11 := own_ne O_A_LETTER O_MID_LETTER (by decide)
  have n_5_13 : ¬ w 5 = w 13 := own_ne O_A_LETTER O_MID_NUM_LET (by decide)
  have n_5_14 : ¬ w 5 = w 14 := own_ne O_A_LETTER O_SINGLE_QUOTE (by decide)
  have n_6_11 : ¬ w 6 = w 11 := own_ne O_HEBREW_LETTER O_MID_LETTER (by decide)
  have n_6_13 : ¬ w 6 = w 13 := own_ne O_HEBREW_LETTER O_MID_NUM_LET (by decide)
  have n_6_14 : ¬ w 6 = w 14 := own_ne O_HEBREW_LETTER O_SINGLE_QUOTE (by decide)
  have n_7_11 : ¬ w 7 = w 11 := own_ne O_NUMERIC O_MID_LETTER (by decide)
  have n_7_13 : ¬ w 7 = w 13 := own_ne O_NUMERIC O_MID_NUM_LET (by decide)
  have n_7_14 : ¬ w 7 = w 14 := own_ne O_NUMERIC O_SINGLE_QUOTE (by decide)
  have n_8_11 : ¬ w 8 = w 11 := own_ne O_KATAKANA O_MID_LETTER (by decide)
  have n_8_13 : ¬ w 8 = w 13 := own_ne O_KATAKANA O_MID_NUM_LET (by decide)
  have n_8_14 : ¬ w 8 = w 14 := own_ne O_KATAKANA O_SINGLE_QUOTE (by decide)
  have n_9_11 : ¬ w 9 = w 11 := own_ne O_EXTEND_NUM_LET O_MID_LETTER (by decide)
  have n_9_13 : ¬ w 9 = w 13 := own_ne O_EXTEND_NUM_LET O_MID_NUM_LET (by decide)
  have n_9_14 : ¬ w 9 = w 14 := own_ne O_EXTEND_NUM_LET O_SINGLE_QUOTE (by decide)
  have n_10_11 : ¬ w 10 = w 11 := own_ne O_SOUTHEAST_ASIAN O_MID_LETTER (by decide)
  have n_10_13 : ¬ w 10 = w 13 := own_ne O_SOUTHEAST_ASIAN O_MID_NUM_LET (by decide)
  have n_10_14 : ¬ w 10 = w 14 := own_ne O_SOUTHEAST_ASIAN O_SINGLE_QUOTE (by decide)
  have n_11_13 : ¬ w 11 = w 13 := own_ne O_MID_LETTER O_MID_NUM_LET (by decide)
  have n_11_14 : ¬ w 11 = w 14 := own_ne O_MID_LETTER O_SINGLE_QUOTE (by decide)
  have n_12_11 : ¬ w 12 = w 11 := own_ne O_MID_NUM O_MID_LETTER (by decide)
  have n_12_13 : ¬ w 12 = w 13 := own_ne O_MID_NUM O_MID_NUM_LET (by decide)
  have n_12_14 : ¬ w 12 = w 14 := own_ne O_MID_NUM O_SINGLE_QUOTE (by decide)
  have n_13_11 : ¬ w 13 = w 11 := own_ne O_MID_NUM_LET O_MID_LETTER (by decide)
  have n_13_14 : ¬ w 13 = w 14 := own_ne O_MID_NUM_LET O_SINGLE_QUOTE (by decide)
  have n_14_11 : ¬ w 14 = w 11 := own_ne O_SINGLE_QUOTE O_MID_LETTER (by decide)
  have n_14_13 : ¬ w 14 = w 13 := own_ne O_SINGLE_QUOTE O_MID_NUM_LET (by decide)
  have n_15_11 : ¬ w 15 = w 11 := own_ne O_DOUBLE_QUOTE O_MID_LETTER (by decide)
  have n_15_13 : ¬ w 15 = w 13 := own_ne O_DOUBLE_QUOTE O_MID_NUM_LET (by decide)
  have n_15_14 : ¬ w 15 = w 14 := own_ne O_DOUBLE_QUOTE O_SINGLE_QUOTE (by decide)
  have hall : Exa s s.heap (pickA ((i0 &&& (2147483647 : Int32)) % (16 : Int32)) w) "com/example/omomi/omomi/WordBreak" ∧ betw (pickA ((i0 &&& (2147483647 : Int32)) % (16 : Int32)) w) w = expd ((i0 &&& (2147483647 : Int32)) % (16 : Int32)) := by
    generalize hk : (i0 &&& (2147483647 : Int32)) % (16 : Int32) = k
    have hb := own_rem i0 (16 : Int32) 16 rfl (by decide)
    rw [hk] at hb
    rcases own_cases16 hb.1 hb.2 with rfl | rfl | rfl | rfl | rfl | rfl | rfl | rfl | rfl | rfl | rfl | rfl | rfl | rfl | rfl | rfl
    · exact ⟨by rw [own_p0]; exact E_OTHER, by rw [own_p0, own_e0]; unfold betw; exact (if_neg n_0_11).trans ((if_neg n_0_13).trans (if_neg n_0_14))⟩
    · exact ⟨by rw [own_p1]; exact E_NEWLINE, by rw [own_p1, own_e1]; unfold betw; exact (if_neg n_1_11).trans ((if_neg n_1_13).trans (if_neg n_1_14))⟩
    · exact ⟨by rw [own_p2]; exact E_EXTEND, by rw [own_p2, own_e2]; unfold betw; exact (if_neg n_2_11).trans ((if_neg n_2_13).trans (if_neg n_2_14))⟩
    · exact ⟨by rw [own_p3]; exact E_REGIONAL_INDICATOR, by rw [own_p3, own_e3]; unfold betw; exact (if_neg n_3_11).trans ((if_neg n_3_13).trans (if_neg n_3_14))⟩
    · exact ⟨by rw [own_p4]; exact E_W_SEG_SPACE, by rw [own_p4, own_e4]; unfold betw; exact (if_neg n_4_11).trans ((if_neg n_4_13).trans (if_neg n_4_14))⟩
    · exact ⟨by rw [own_p5]; exact E_A_LETTER, by rw [own_p5, own_e5]; unfold betw; exact (if_neg n_5_11).trans ((if_neg n_5_13).trans (if_neg n_5_14))⟩
    · exact ⟨by rw [own_p6]; exact E_HEBREW_LETTER, by rw [own_p6, own_e6]; unfold betw; exact (if_neg n_6_11).trans ((if_neg n_6_13).trans (if_neg n_6_14))⟩
    · exact ⟨by rw [own_p7]; exact E_NUMERIC, by rw [own_p7, own_e7]; unfold betw; exact (if_neg n_7_11).trans ((if_neg n_7_13).trans (if_neg n_7_14))⟩
    · exact ⟨by rw [own_p8]; exact E_KATAKANA, by rw [own_p8, own_e8]; unfold betw; exact (if_neg n_8_11).trans ((if_neg n_8_13).trans (if_neg n_8_14))⟩
    · exact ⟨by rw [own_p9]; exact E_EXTEND_NUM_LET, by rw [own_p9, own_e9]; unfold betw; exact (if_neg n_9_11).trans ((if_neg n_9_13).trans (if_neg n_9_14))⟩
    · exact ⟨by rw [own_p10]; exact E_SOUTHEAST_ASIAN, by rw [own_p10, own_e10]; unfold betw; exact (if_neg n_10_11).trans ((if_neg n_10_13).trans (if_neg n_10_14))⟩
    · exact ⟨by rw [own_p11]; exact E_MID_LETTER, by rw [own_p11, own_e11]; unfold betw; exact if_pos rfl⟩
    · exact ⟨by rw [own_p12]; exact E_MID_NUM, by rw [own_p12, own_e12]; unfold betw; exact (if_neg n_12_11).trans ((if_neg n_12_13).trans (if_neg n_12_14))⟩
    · exact ⟨by rw [own_p13]; exact E_MID_NUM_LET, by rw [own_p13, own_e13]; unfold betw; exact (if_neg n_13_11).trans (if_pos rfl)⟩
    · exact ⟨by rw [own_p14]; exact E_SINGLE_QUOTE, by rw [own_p14, own_e14]; unfold betw; exact (if_neg n_14_11).trans ((if_neg n_14_13).trans (if_pos rfl))⟩
    · exact ⟨by rw [own_p15]; exact E_DOUBLE_QUOTE, by rw [own_p15, own_e15]; unfold betw; exact (if_neg n_15_11).trans ((if_neg n_15_13).trans (if_neg n_15_14))⟩
  obtain ⟨hexa, hfin⟩ := hall
  obtain ⟨n, o, h1, h2, h3, _, L, rfl, ⟨rfl, N⟩, hq⟩ := rm0 l s _ hw tables_1 i0 w s.heap s.heap.size (Nat.le_refl _) S_OTHER S_NEWLINE S_EXTEND S_REGIONAL_INDICATOR S_W_SEG_SPACE S_A_LETTER S_HEBREW_LETTER S_NUMERIC S_KATAKANA S_EXTEND_NUM_LET S_SOUTHEAST_ASIAN S_MID_LETTER S_MID_NUM S_MID_NUM_LET S_SINGLE_QUOTE S_DOUBLE_QUOTE hexa hfin p e ha hc hk s m _ below hf ((Spec.applies_iff_loose hf).mp happ).1 ⟨rfl, State.Warmed39.refl s, rfl⟩ trivial
  refine ⟨n, _, h1, h2, h3, hpost _ _ _ _ _ _ ⟨Cond.after_iff.mpr rfl, Cond.after_iff.mpr (eq_i res_at (Term.int_eval (1)) rfl), trivial⟩ ⟨hq.1, hq.2.1, (hq.2.2.sift fun y hy => Or.inr (N y hy)).mono (by decide) (by decide)⟩⟩
theorem main_1_1 : Claimed_1_1 := comes_1 fun _ _ _ _ _ _ h hF => ⟨h.1, hF⟩
theorem main_1_2 : Claimed_1_2 := comes_1 fun _ _ _ _ _ _ h hF => ⟨h.2.1, hF⟩
end Jvm.Pilot.@@N@@
namespace Jvm.Pilot.@@N@@
open Jvm Jvm.ClassFile Sem Op Lib Jvm.Free Jvm.Stand Jvm.Pilot.@@N@@.Jvm.D
/-! MADE BY PROGRAM (witnessworld.py) out of the Statement's table words and the real class files: 12 classes; the members and pool entries that the words name. The judged class is class 1, her method 3. -/
namespace start1
open Jvm.ClassFile
def u (s : String) : CpInfo := .utf8 (stringToUtf16 s)
/-- a pool by its gaps: so many unusable entries, then the entry; so many at the end -/
def gap : Nat → List CpInfo → List CpInfo
  | 0, r => r
  | n + 1, r => .unusable :: gap n r
def poolList (es : List (Nat × CpInfo)) (last : Nat) : List CpInfo := es.foldr (fun e r => gap e.1 (e.2 :: r)) (gap last [])
def pool (es : List (Nat × CpInfo)) (last : Nat) : Array CpInfo := ⟨poolList es last⟩
def fileOf (pool : Array CpInfo) (this : Nat) (attrs : Array Attribute := #[]) (ms : Array MethodInfo := #[]) (fl : Nat := 33) (sup : Nat := 0) (ifs : Array Nat := #[]) (fds : Array FieldInfo := #[]) : ClassFile where
  minorVersion := 0
  majorVersion := 65
  constantPool := pool
  accessFlags := fl
  thisClass := this
  superClass := sup
  interfaces := ifs
  fields := fds
  methods := ms
  attributes := attrs
def plain (name : String) (sup : Option ClassId) : Class where
  name := name
  kind := .ordinary
  loader := none
  accessFlags := 33
  super := sup
  interfaces := #[]
  cf := none
  fields := #[]
  methods := #[]
  instanceTypes := #[]
  staticTypes := #[]
  resolved := #[]
  callSites := []
  init := .initialized
  statics := none
  mirror := none

def pool0 : Array CpInfo := pool [(5, u "<init>"), (0, u "()V"), (1, .class_ 10), (1, u "java/lang/Object")] 113

def k0m0 : Method := { name := "<init>", desc := "()V", sig := { parameters := [], returnType := none }, accessFlags := 1, code := none }
/-- java/lang/Object -/
def k0 : Class := { plain "java/lang/Object" none with
  accessFlags := 33
  interfaces := #[]
  cf := some (fileOf pool0 8 #[] #[{ accessFlags := 1, nameIndex := 5, descriptorIndex := 6, attributes := #[] }] 33 0 #[] #[])
  fields := #[]
  methods := #[k0m0]
  instanceTypes := #[]
  staticTypes := #[]
  resolved := Array.replicate 124 none
  statics := none }

def pool1 : Array CpInfo := pool [(2, .class_ 4), (1, u "java/lang/Object"), (0, u "<init>"), (0, u "()V"), (0, .fieldref 8 9), (0, .class_ 10), (0, .nameAndType 11 12), (0, u "com/example/omomi/omomi/WordBreak"), (0, u "OTHER"), (0, u "Lcom/example/omomi/omomi/WordBreak;"), (0, .fieldref 8 14), (0, .nameAndType 15 12), (0, u "NEWLINE"), (0, .fieldref 8 17), (0, .nameAndType 18 12), (0, u "EXTEND"), (0, .fieldref 8 20), (0, .nameAndType 21 12), (0, u "REGIONAL_INDICATOR"), (0, .fieldref 8 23), (0, .nameAndType 24 12), (0, u "W_SEG_SPACE"), (0, .fieldref 8 26), (0, .nameAndType 27 12), (0, u "A_LETTER"), (0, .fieldref 8 29), (0, .nameAndType 30 12), (0, u "HEBREW_LETTER"), (0, .fieldref 8 32), (0, .nameAndType 33 12), (0, u "NUMERIC"), (0, .fieldref 8 35), (0, .nameAndType 36 12), (0, u "KATAKANA"), (0, .fieldref 8 38), (0, .nameAndType 39 12), (0, u "EXTEND_NUM_LET"), (0, .fieldref 8 41), (0, .nameAndType 42 12), (0, u "SOUTHEAST_ASIAN"), (0, .fieldref 8 44), (0, .nameAndType 45 12), (0, u "MID_LETTER"), (0, .fieldref 8 47), (0, .nameAndType 48 12), (0, u "MID_NUM"), (0, .fieldref 8 50), (0, .nameAndType 51 12), (0, u "MID_NUM_LET"), (0, .fieldref 8 53), (0, .nameAndType 54 12), (0, u "SINGLE_QUOTE"), (0, .fieldref 8 56), (0, .nameAndType 57 12), (0, u "DOUBLE_QUOTE"), (0, .integer 2147483647), (0, .methodref 60 61), (0, .class_ 62), (0, .nameAndType 63 64), (0, u "com/example/omomi/omomi/WordBreakIsBetweenLettersPinLaw"), (0, u "pick"), (0, u "(I)Lcom/example/omomi/omomi/WordBreak;"), (0, .methodref 8 66), (0, .nameAndType 67 68), (0, u "isBetweenLetters"), (0, u "()Z"), (0, .methodref 60 70), (0, .nameAndType 71 72), (0, u "expected"), (0, u "(I)Z"), (3, u "law")] 2

def k1m0 : Method := { name := "<init>", desc := "()V", sig := { parameters := [], returnType := none }, accessFlags := 1, code := none }
def k1c1 : Code := { maxStack := 2, maxLocals := 1, code := method_2_code, exceptionTable := #[], attributes := #[] }
def k1m1 : Method := { name := "pick", desc := "(I)Lcom/example/omomi/omomi/WordBreak;", sig := { parameters := [.int], returnType := some (.object "com/example/omomi/omomi/WordBreak") }, accessFlags := 10, code := some k1c1 }
def k1c2 : Code := { maxStack := 2, maxLocals := 1, code := method_3_code, exceptionTable := #[], attributes := #[] }
def k1m2 : Method := { name := "expected", desc := "(I)Z", sig := { parameters := [.int], returnType := some .boolean }, accessFlags := 10, code := some k1c2 }
def k1c3 : Code := { maxStack := 2, maxLocals := 3, code := code, exceptionTable := #[], attributes := #[] }
def k1m3 : Method := { name := "law", desc := "(I)Z", sig := { parameters := [.int], returnType := some .boolean }, accessFlags := 9, code := some k1c3 }
/-- com/example/omomi/omomi/WordBreakIsBetweenLettersPinLaw -/
def k1 : Class := { plain "com/example/omomi/omomi/WordBreakIsBetweenLettersPinLaw" (some 0) with
  accessFlags := 49
  interfaces := #[]
  cf := some (fileOf pool1 60 #[] #[{ accessFlags := 1, nameIndex := 5, descriptorIndex := 6, attributes := #[] }, { accessFlags := 10, nameIndex := 63, descriptorIndex := 64, attributes := #[] }, { accessFlags := 10, nameIndex := 71, descriptorIndex := 72, attributes := #[] }, { accessFlags := 9, nameIndex := 76, descriptorIndex := 72, attributes := #[] }] 49 2 #[] #[])
  fields := #[]
  methods := #[k1m0, k1m1, k1m2, k1m3]
  instanceTypes := #[]
  staticTypes := #[]
  resolved := Array.replicate 79 none
  statics := none }

def pool2 : Array CpInfo := pool [(1, .class_ 2), (0, u "java/lang/constant/Constable"), (0, .class_ 4), (0, u "java/lang/Object")] 6

/-- java/lang/constant/Constable -/
def k2 : Class := { plain "java/lang/constant/Constable" (some 0) with
  accessFlags := 1537
  interfaces := #[]
  cf := some (fileOf pool2 1 #[] #[] 1537 3 #[] #[])
  fields := #[]
  methods := #[]
  instanceTypes := #[]
  staticTypes := #[]
  resolved := Array.replicate 11 none
  statics := none }

def pool3 : Array CpInfo := pool [(1, .class_ 2), (0, u "java/lang/Comparable"), (0, .class_ 4), (0, u "java/lang/Object")] 7

/-- java/lang/Comparable -/
def k3 : Class := { plain "java/lang/Comparable" (some 0) with
  accessFlags := 1537
  interfaces := #[]
  cf := some (fileOf pool3 1 #[] #[] 1537 3 #[] #[])
  fields := #[]
  methods := #[]
  instanceTypes := #[]
  staticTypes := #[]
  resolved := Array.replicate 12 none
  statics := none }

def pool4 : Array CpInfo := pool [(1, .class_ 2), (0, u "java/io/Serializable"), (0, .class_ 4), (0, u "java/lang/Object")] 2

/-- java/io/Serializable -/
def k4 : Class := { plain "java/io/Serializable" (some 0) with
  accessFlags := 1537
  interfaces := #[]
  cf := some (fileOf pool4 1 #[] #[] 1537 3 #[] #[])
  fields := #[]
  methods := #[]
  instanceTypes := #[]
  staticTypes := #[]
  resolved := Array.replicate 7 none
  statics := none }

def pool5 : Array CpInfo := pool [(2, .class_ 4), (1, u "java/lang/Enum"), (0, u "name"), (0, u "Ljava/lang/String;"), (2, u "ordinal"), (0, u "I"), (1, .class_ 14), (1, u "java/lang/Object"), (4, u "hash"), (86, .class_ 108), (1, u "java/lang/Enum$EnumDesc"), (2, .class_ 112), (0, u "java/lang/constant/Constable"), (0, .class_ 114), (0, u "java/lang/Comparable"), (0, .class_ 116), (0, u "java/io/Serializable")] 87

/-- java/lang/Enum -/
def k5 : Class := { plain "java/lang/Enum" (some 0) with
  accessFlags := 1057
  interfaces := #[2, 3, 4]
  cf := some (fileOf pool5 2 #[.nestMembers #[106]] #[] 1057 12 #[111, 113, 115] #[{ accessFlags := 18, nameIndex := 5, descriptorIndex := 6, attributes := #[] }, { accessFlags := 18, nameIndex := 9, descriptorIndex := 10, attributes := #[] }, { accessFlags := 2, nameIndex := 19, descriptorIndex := 10, attributes := #[] }])
  fields := #[{ name := "name", type := (.object "java/lang/String"), accessFlags := 18, slot := 0, constantValue := 0 }, { name := "ordinal", type := .int, accessFlags := 18, slot := 1, constantValue := 0 }, { name := "hash", type := .int, accessFlags := 2, slot := 2, constantValue := 0 }]
  methods := #[]
  instanceTypes := #[(.object "java/lang/String"), .int, .int]
  staticTypes := #[]
  resolved := Array.replicate 204 none
  statics := none }

def pool6 : Array CpInfo := pool [(1, .class_ 2), (0, u "com/example/omomi/omomi/WordBreak"), (2, u "OTHER"), (0, u "Lcom/example/omomi/omomi/WordBreak;"), (2, u "NEWLINE"), (2, u "EXTEND"), (2, u "REGIONAL_INDICATOR"), (2, u "W_SEG_SPACE"), (2, u "A_LETTER"), (2, u "HEBREW_LETTER"), (2, u "NUMERIC"), (2, u "KATAKANA"), (2, u "EXTEND_NUM_LET"), (2, u "SOUTHEAST_ASIAN"), (0, .fieldref 1 38), (0, .nameAndType 39 6), (0, u "MID_LETTER"), (2, u "MID_NUM"), (0, .fieldref 1 44), (0, .nameAndType 45 6), (0, u "MID_NUM_LET"), (0, .fieldref 1 47), (0, .nameAndType 48 6), (0, u "SINGLE_QUOTE"), (2, u "DOUBLE_QUOTE"), (2, u "$VALUES"), (0, u "[Lcom/example/omomi/omomi/WordBreak;"), (6, .class_ 64), (1, u "java/lang/Enum"), (8, u "names"), (0, u "[Ljava/lang/String;"), (2, u "NAMED"), (0, u "Ljava/util/Map;"), (114, u "()Z"), (0, u "isBetweenLetters")] 35

def k6c0 : Code := { maxStack := 2, maxLocals := 1, code := prog_34_method_6_code, exceptionTable := #[], attributes := #[] }
def k6m0 : Method := { name := "isBetweenLetters", desc := "()Z", sig := { parameters := [], returnType := some .boolean }, accessFlags := 0, code := some k6c0 }
/-- com/example/omomi/omomi/WordBreak -/
def k6 : Class := { plain "com/example/omomi/omomi/WordBreak" (some 5) with
  accessFlags := 16432
  interfaces := #[]
  cf := some (fileOf pool6 1 #[] #[{ accessFlags := 0, nameIndex := 194, descriptorIndex := 193, attributes := #[] }] 16432 62 #[] #[{ accessFlags := 16409, nameIndex := 5, descriptorIndex := 6, attributes := #[] }, { accessFlags := 16409, nameIndex := 9, descriptorIndex := 6, attributes := #[] }, { accessFlags := 16409, nameIndex := 12, descriptorIndex := 6, attributes := #[] }, { accessFlags := 16409, nameIndex := 15, descriptorIndex := 6, attributes := #[] }, { accessFlags := 16409, nameIndex := 18, descriptorIndex := 6, attributes := #[] }, { accessFlags := 16409, nameIndex := 21, descriptorIndex := 6, attributes := #[] }, { accessFlags := 16409, nameIndex := 24, descriptorIndex := 6, attributes := #[] }, { accessFlags := 16409, nameIndex := 27, descriptorIndex := 6, attributes := #[] }, { accessFlags := 16409, nameIndex := 30, descriptorIndex := 6, attributes := #[] }, { accessFlags := 16409, nameIndex := 33, descriptorIndex := 6, attributes := #[] }, { accessFlags := 16409, nameIndex := 36, descriptorIndex := 6, attributes := #[] }, { accessFlags := 16409, nameIndex := 39, descriptorIndex := 6, attributes := #[] }, { accessFlags := 16409, nameIndex := 42, descriptorIndex := 6, attributes := #[] }, { accessFlags := 16409, nameIndex := 45, descriptorIndex := 6, attributes := #[] }, { accessFlags := 16409, nameIndex := 48, descriptorIndex := 6, attributes := #[] }, { accessFlags := 16409, nameIndex := 51, descriptorIndex := 6, attributes := #[] }, { accessFlags := 26, nameIndex := 77, descriptorIndex := 78, attributes := #[] }, { accessFlags := 18, nameIndex := 73, descriptorIndex := 74, attributes := #[] }, { accessFlags := 4122, nameIndex := 54, descriptorIndex := 55, attributes := #[] }])
  fields := #[{ name := "OTHER", type := (.object "com/example/omomi/omomi/WordBreak"), accessFlags := 16409, slot := 0, constantValue := 0 }, { name := "NEWLINE", type := (.object "com/example/omomi/omomi/WordBreak"), accessFlags := 16409, slot := 1, constantValue := 0 }, { name := "EXTEND", type := (.object "com/example/omomi/omomi/WordBreak"), accessFlags := 16409, slot := 2, constantValue := 0 }, { name := "REGIONAL_INDICATOR", type := (.object "com/example/omomi/omomi/WordBreak"), accessFlags := 16409, slot := 3, constantValue := 0 }, { name := "W_SEG_SPACE", type := (.object "com/example/omomi/omomi/WordBreak"), accessFlags := 16409, slot := 4, constantValue := 0 }, { name := "A_LETTER", type := (.object "com/example/omomi/omomi/WordBreak"), accessFlags := 16409, slot := 5, constantValue := 0 }, { name := "HEBREW_LETTER", type := (.object "com/example/omomi/omomi/WordBreak"), accessFlags := 16409, slot := 6, constantValue := 0 }, { name := "NUMERIC", type := (.object "com/example/omomi/omomi/WordBreak"), accessFlags := 16409, slot := 7, constantValue := 0 }, { name := "KATAKANA", type := (.object "com/example/omomi/omomi/WordBreak"), accessFlags := 16409, slot := 8, constantValue := 0 }, { name := "EXTEND_NUM_LET", type := (.object "com/example/omomi/omomi/WordBreak"), accessFlags := 16409, slot := 9, constantValue := 0 }, { name := "SOUTHEAST_ASIAN", type := (.object "com/example/omomi/omomi/WordBreak"), accessFlags := 16409, slot := 10, constantValue := 0 }, { name := "MID_LETTER", type := (.object "com/example/omomi/omomi/WordBreak"), accessFlags := 16409, slot := 11, constantValue := 0 }, { name := "MID_NUM", type := (.object "com/example/omomi/omomi/WordBreak"), accessFlags := 16409, slot := 12, constantValue := 0 }, { name := "MID_NUM_LET", type := (.object "com/example/omomi/omomi/WordBreak"), accessFlags := 16409, slot := 13, constantValue := 0 }, { name := "SINGLE_QUOTE", type := (.object "com/example/omomi/omomi/WordBreak"), accessFlags := 16409, slot := 14, constantValue := 0 }, { name := "DOUBLE_QUOTE", type := (.object "com/example/omomi/omomi/WordBreak"), accessFlags := 16409, slot := 15, constantValue := 0 }, { name := "NAMED", type := (.object "java/util/Map"), accessFlags := 26, slot := 16, constantValue := 0 }, { name := "names", type := (.array (.object "java/lang/String")), accessFlags := 18, slot := 3, constantValue := 0 }, { name := "$VALUES", type := (.array (.object "com/example/omomi/omomi/WordBreak")), accessFlags := 4122, slot := 17, constantValue := 0 }]
  methods := #[k6m0]
  instanceTypes := #[(.object "java/lang/String"), .int, .int, (.array (.object "java/lang/String"))]
  staticTypes := #[(.object "com/example/omomi/omomi/WordBreak"), (.object "com/example/omomi/omomi/WordBreak"), (.object "com/example/omomi/omomi/WordBreak"), (.object "com/example/omomi/omomi/WordBreak"), (.object "com/example/omomi/omomi/WordBreak"), (.object "com/example/omomi/omomi/WordBreak"), (.object "com/example/omomi/omomi/WordBreak"), (.object "com/example/omomi/omomi/WordBreak"), (.object "com/example/omomi/omomi/WordBreak"), (.object "com/example/omomi/omomi/WordBreak"), (.object "com/example/omomi/omomi/WordBreak"), (.object "com/example/omomi/omomi/WordBreak"), (.object "com/example/omomi/omomi/WordBreak"), (.object "com/example/omomi/omomi/WordBreak"), (.object "com/example/omomi/omomi/WordBreak"), (.object "com/example/omomi/omomi/WordBreak"), (.object "java/util/Map"), (.array (.object "com/example/omomi/omomi/WordBreak"))]
  resolved := Array.replicate 230 none
  statics := some 0 }

def pool7 : Array CpInfo := pool [(1, u "java/lang/Cloneable"), (0, .class_ 1), (0, u "java/lang/Object"), (0, .class_ 3)] 3

/-- java/lang/Cloneable -/
def k7 : Class := { plain "java/lang/Cloneable" (some 0) with
  accessFlags := 1537
  interfaces := #[]
  cf := some (fileOf pool7 2 #[] #[] 1537 4 #[] #[])
  fields := #[]
  methods := #[]
  instanceTypes := #[]
  staticTypes := #[]
  resolved := Array.replicate 8 none
  statics := none }

/-- the primitive byte -/
def k8 : Class := { plain "byte" none with kind := .primitive 'B', accessFlags := 0x411 }
/-- [B -/
def k9 : Class := { plain "[B" (some 0) with kind := .array 8 .byte, interfaces := #[7, 4], accessFlags := 1041 }

/-- the primitive int -/
def k10 : Class := { plain "int" none with kind := .primitive 'I', accessFlags := 0x411 }
/-- [I -/
def k11 : Class := { plain "[I" (some 0) with kind := .array 10 .int, interfaces := #[7, 4], accessFlags := 1041 }

def heap : Heap := #[{ cls := 6, slots := #[.ref 1, .ref 2, .ref 3, .ref 4, .ref 5, .ref 6, .ref 7, .ref 8, .ref 9, .ref 10, .ref 11, .ref 12, .ref 13, .ref 14, .ref 15, .ref 16, .null, .null], vm := .statics 6 },
  { cls := 6, slots := #[.null, .int 0, .int 0, .null], vm := .none },
  { cls := 6, slots := #[.null, .int 1, .int 0, .null], vm := .none },
  { cls := 6, slots := #[.null, .int 2, .int 0, .null], vm := .none },
  { cls := 6, slots := #[.null, .int 3, .int 0, .null], vm := .none },
  { cls := 6, slots := #[.null, .int 4, .int 0, .null], vm := .none },
  { cls := 6, slots := #[.null, .int 5, .int 0, .null], vm := .none },
  { cls := 6, slots := #[.null, .int 6, .int 0, .null], vm := .none },
  { cls := 6, slots := #[.null, .int 7, .int 0, .null], vm := .none },
  { cls := 6, slots := #[.null, .int 8, .int 0, .null], vm := .none },
  { cls := 6, slots := #[.null, .int 9, .int 0, .null], vm := .none },
  { cls := 6, slots := #[.null, .int 10, .int 0, .null], vm := .none },
  { cls := 6, slots := #[.null, .int 11, .int 0, .null], vm := .none },
  { cls := 6, slots := #[.null, .int 12, .int 0, .null], vm := .none },
  { cls := 6, slots := #[.null, .int 13, .int 0, .null], vm := .none },
  { cls := 6, slots := #[.null, .int 14, .int 0, .null], vm := .none },
  { cls := 6, slots := #[.null, .int 15, .int 0, .null], vm := .none }]
def classes : Array Class := #[k0, k1, k2, k3, k4, k5, k6, k7, k8, k9, k10, k11]
def interned : List (Array UInt16 × Addr) := []
def slotsUsed : Nat := 82
def theMethod : MethodId := ⟨1, 3⟩
def args0 : Array Value := #[.int 5]
def aboutOver (below : List Frame) : State where
  vm := { classes := classes, interned := interned.toArray }
  heap := heap
  slotsUsed := slotsUsed
  threads := #[{ frames := .invoking theMethod args0 :: below }]
def below0 : List Frame := [.native { method := ⟨0, 0⟩, args := #[] }]
def about1 : State := aboutOver below0
def p0 : Program := .bare "" "" ""
def e0 : Env := launch0.env 0 0 0
theorem w_frames : about1.frames = Frame.invoking theMethod args0 :: below0 := rfl
set_option maxRecDepth 65536 in
theorem w_args : argsFit about1.vm theMethod args0 = true := by decide +kernel
set_option maxRecDepth 65536 in
theorem w_heap : heapFits about1 = true := by decide +kernel
set_option maxRecDepth 65536 in
theorem w_runnable : about1.curStatus? = some .runnable := by decide +kernel
set_option maxRecDepth 65536 in
theorem w_alone : about1.alone = true := by decide +kernel
set_option maxRecDepth 65536 in
theorem w_named : about1.methodNamed? x = some theMethod := by decide +kernel
set_option maxRecDepth 65536 in
theorem w_hears : about1.hears theMethod below0 = true := by decide +kernel
set_option maxRecDepth 65536 in
theorem w_ripe : about1.ripe theMethod args0 below0 = true := by decide +kernel
theorem w_running : about1.status = .running := rfl
set_option maxRecDepth 65536 in
theorem w_room : about1.hasRoom e0.platform room_1 = true :=
  launch0.hasRoom_least _ room_1 (by decide +kernel) (by decide +kernel) (by decide +kernel) (by decide +kernel) (by decide +kernel) (by decide +kernel)
theorem allAtoms_all (ts : List Jvm.Cond) (a : Array Jvm.Value) (st : Jvm.State) : (allAtoms ts).before a st = ts.all (fun c => c.before a st) := by
  induction ts with
  | nil => rfl
  | cons c t ih =>
    show (Jvm.Cond.and c (allAtoms t)).before a st = _
    rw [Jvm.Cond.before_and, ih, List.all_cons]
def words1 : List Jvm.Cond := Jvm.Cond.code x code maxLocals ret :: tables_1
/-- a 'code' word, met by the world's own term for the bytes: nothing is compared byte by byte -/
theorem code_word {y : MethodName} {bytes : ByteArray} {mx : Nat} {rt : Option FieldType} {a : Array Value} {s : State} {m : MethodId} {meth : Method} {c : Code} (h1 : s.methodNamed? y = some m) (h2 : s.vm.method? m = some meth) (h3 : meth.code = some c) (h4 : c.code = bytes)
    (h5 : (c.maxLocals == mx && c.exceptionTable.isEmpty && decide (c.maxStack ≤ mostOperands) && decide (meth.sig.returnType = rt) && !meth.locks && decide (parseMethodDescriptor y.desc = some meth.sig)) = true) : (Jvm.Cond.code y bytes mx rt).before a s = true := by
  simp only [Bool.and_eq_true, beq_iff_eq, Bool.not_eq_true', decide_eq_true_eq] at h5
  obtain ⟨⟨⟨⟨⟨g1, g2⟩, g3⟩, g4⟩, g5⟩, g6⟩ := h5
  simp [Cond.before, Cond.holds, Cond.value, h1, h2, h3, h4, g1, g2, g3, g4, g5, g6]
def isCode : Jvm.Cond → Bool
  | .code _ _ _ _ => true
  | _ => false
theorem all_split {L : List Jvm.Cond} {P : Jvm.Cond → Bool} (h1 : L.all (fun c => isCode c || P c) = true) (h2 : ∀ c ∈ L.filter isCode, P c = true) : L.all P = true := by
  refine List.all_eq_true.mpr fun c hc => ?_
  have h := List.all_eq_true.mp h1 c hc
  rcases Bool.eq_false_or_eq_true (isCode c) with hi | hi
  · exact h2 c (List.mem_filter.mpr ⟨hc, hi⟩)
  · simpa [hi] using h
set_option maxRecDepth 65536 in
theorem w_c0 : (Jvm.Cond.code x code maxLocals ret).before args0 about1 = true := code_word (m := ⟨1, 3⟩) (meth := k1m3) (c := k1c3) (by decide +kernel) rfl rfl rfl (by decide +kernel)
set_option maxRecDepth 65536 in
theorem w_c1 : (Jvm.Cond.code ({ cls := "com/example/omomi/omomi/WordBreakIsBetweenLettersPinLaw", name := "pick", desc := "(I)Lcom/example/omomi/omomi/WordBreak;" } : Jvm.MethodName) method_2_code (1 : Nat) (Option.some (Jvm.ClassFile.FieldType.object "com/example/omomi/omomi/WordBreak"))).before args0 about1 = true := code_word (m := ⟨1, 1⟩) (meth := k1m1) (c := k1c1) (by decide +kernel) rfl rfl rfl (by decide +kernel)
set_option maxRecDepth 65536 in
theorem w_c2 : (Jvm.Cond.code ({ cls := "com/example/omomi/omomi/WordBreak", name := "isBetweenLetters", desc := "()Z" } : Jvm.MethodName) prog_34_method_6_code (1 : Nat) (Option.some Jvm.ClassFile.FieldType.boolean)).before args0 about1 = true := code_word (m := ⟨6, 0⟩) (meth := k6m0) (c := k6c0) (by decide +kernel) rfl rfl rfl (by decide +kernel)
set_option maxRecDepth 65536 in
theorem w_c3 : (Jvm.Cond.code ({ cls := "com/example/omomi/omomi/WordBreakIsBetweenLettersPinLaw", name := "expected", desc := "(I)Z" } : Jvm.MethodName) method_3_code (1 : Nat) (Option.some Jvm.ClassFile.FieldType.boolean)).before args0 about1 = true := code_word (m := ⟨1, 2⟩) (meth := k1m2) (c := k1c2) (by decide +kernel) rfl rfl rfl (by decide +kernel)
def codes1 : List Jvm.Cond := [Jvm.Cond.code x code maxLocals ret, Jvm.Cond.code ({ cls := "com/example/omomi/omomi/WordBreakIsBetweenLettersPinLaw", name := "pick", desc := "(I)Lcom/example/omomi/omomi/WordBreak;" } : Jvm.MethodName) method_2_code (1 : Nat) (Option.some (Jvm.ClassFile.FieldType.object "com/example/omomi/omomi/WordBreak")), Jvm.Cond.code ({ cls := "com/example/omomi/omomi/WordBreak", name := "isBetweenLetters", desc := "()Z" } : Jvm.MethodName) prog_34_method_6_code (1 : Nat) (Option.some Jvm.ClassFile.FieldType.boolean), Jvm.Cond.code ({ cls := "com/example/omomi/omomi/WordBreakIsBetweenLettersPinLaw", name := "expected", desc := "(I)Z" } : Jvm.MethodName) method_3_code (1 : Nat) (Option.some Jvm.ClassFile.FieldType.boolean)]
set_option maxRecDepth 65536 in
theorem codes_eq : words1.filter isCode = codes1 := rfl
theorem w_codes : ∀ c ∈ words1.filter isCode, c.before args0 about1 = true := by
  rw [codes_eq]
  intro c hc
  simp only [codes1, List.mem_cons, List.not_mem_nil, or_false] at hc
  rcases hc with rfl | rfl | rfl | rfl
  · exact w_c0
  · exact w_c1
  · exact w_c2
  · exact w_c3
set_option maxRecDepth 65536 in
theorem w_t1 : (words1.take 24).all (fun c => isCode c || c.before args0 about1) = true := by decide +kernel
set_option maxRecDepth 65536 in
theorem w_t2 : ((words1.drop 24).take 24).all (fun c => isCode c || c.before args0 about1) = true := by decide +kernel
set_option maxRecDepth 65536 in
theorem w_t3 : ((words1.drop 24).drop 24).all (fun c => isCode c || c.before args0 about1) = true := by decide +kernel
theorem w_tables : (allAtoms (Jvm.Cond.code x code maxLocals ret :: tables_1)).before args0 about1 = true := by
  rw [allAtoms_all]
  show words1.all (fun c => c.before args0 about1) = true
  refine all_split ?_ w_codes
  rw [← List.take_append_drop 24 words1, List.all_append, w_t1, ← List.take_append_drop 24 (words1.drop 24), List.all_append, w_t2, w_t3]
  rfl
set_option maxRecDepth 65536 in
theorem w_case : (Jvm.Cond.and given_1 narrow_1).before args0 about1 = true := by decide +kernel
theorem w_applies : (headSpec (Jvm.Cond.code x code maxLocals ret :: tables_1) room_1).applies x e0.platform about1 = true :=
  (Spec.applies_iff w_frames).mpr ⟨w_running, w_runnable, w_alone, w_named, w_hears, w_ripe, w_room, w_tables⟩
theorem atStart : AtStart classFile x code maxLocals ret World_1 tables_1 room_1 Calls_1 rest_1 Pre_1 launch0 p0 e0 about1 theMethod args0 below0 :=
  ⟨lists_1, trivial, launch0.admits_env _ _ _, launch0.least_env, fairChoices_fair.cas, fairChoices_fair.clock, w_frames, w_args, w_heap, w_applies, trivial, trivial, w_case⟩
end start1
theorem witness_1 : WitnessClaimed_1 := ⟨start1.p0, start1.e0, start1.about1, start1.theMethod, start1.args0, start1.below0, start1.atStart⟩
end Jvm.Pilot.@@N@@

import JvmDerived
import JvmDerived.Pilot.@@N@@Statement
import JvmDerived.Pilot.@@N@@Code
set_option linter.unusedVariables false
set_option linter.unusedSimpArgs false
@@BLOCK:NumsL.lean.txt@@
namespace Jvm.RoadKit
open Sem ClassFile Op Lib Jvm.Stand Jvm.Free Jvm.LawKit
section New
variable {p : Program} {l : Launch} {e : Env} {R : Room} {s : State} {m : MethodId} {args : Array Value} {below : List Frame} {meth : Method} {c : Code} {T : State} {locs : List Loc} {cells slots : Nat}
theorem retI (X : Stand p l e R s m args below meth c T locs cells slots) (hx : p.tables.exec = Jvm.exec) {pc : Nat} {Ls : Array Slot} {z : Int32} {rest : List Value} (hret : meth.sig.returnType = some .int) (hd : decode c.code pc = .ok (.ireturn, 1)) {fs : List Frame}
    (hl : ∀ (f : JFrame) (acts : List Action), f.method = m → f.locked = none → f.entered = [] → (doReturn e (T.setTop f) acts (some (.int z))).1 = T.setFrames fs) : Steps p.tables e below (T.setTop (mkF m pc Ls (.int z :: rest))) (T.setFrames fs) := by
  have hm' : T.vm.method? m = some meth := X.method'
  have hn : narrow .int (.int z) = .int z := rfl
  show Steps p.tables e below (T.setTop { method := m, pc := pc, locals := Ls, stack := _ :: rest, locked := none }) _
  jvm_step X.here [X.here.top, hx, hd, hm', hret, hn]
  first | (intro acts; rw [hl _ acts rfl rfl rfl]) | rw [hl _ _ rfl rfl rfl]
  exact Steps.refl _
end New
end Jvm.RoadKit
namespace Jvm.Pilot.@@N@@
open Jvm Jvm.ClassFile Sem Op Lib Jvm.Free Jvm.Stand Jvm.LawKit Jvm.RoadKit Bundle Jvm.Pilot.@@N@@.Jvm.D
theorem own_eqint {args : Array Value} {first s : State} {o : Option Outcome} {idx : List Nat} {t : Term} {k : Int32} (h : (Jvm.Cond.eq t (.int k)).value args first o s idx = some true) : t.eval args first o idx s = some (.int k) := by
  obtain ⟨x, y, hx, hy, hk, hk'⟩ := cmp_v (Or.inl h)
  have ey : y = .int k := (Option.some.inj ((Term.int_eval k).symm.trans hy)).symm
  subst ey
  obtain ⟨z, rfl⟩ := hk'
  have hv : (Jvm.Cond.eq t (.int k)).value args first o s idx = some (decide (z = k)) := by simp [Cond.value, hx, hy]
  have := gotT hv h
  rw [hx, this]
theorem own_eqref {args : Array Value} {first s : State} {o : Option Outcome} {idx : List Nat} {t u : Term} {v : Value} (h : (Jvm.Cond.eq t u).value args first o s idx = some true) (hu : u.eval args first o idx s = some v) (hv : v.isRef = true) : t.eval args first o idx s = some v := by
  obtain ⟨x, y, hx, hy, hk, hk'⟩ := cmp_v (Or.inl h)
  have ey : y = v := Option.some.inj (hy.symm.trans hu)
  subst ey
  have hxr : x.isRef = true := by cases y <;> simp [Value.isRef] at hv <;> exact hk'.2
  have := gotT (eq_R hx hy hxr hv) h
  rw [hx, this]
theorem own_fld {args : Array Value} {s : State} {t : Term} {C n d : String} {k : Int32} {a : Addr} (ht : t.eval args s none [] s = some (.ref a)) (h : (Jvm.Cond.eq (.field t C n d) (.int k)).value args s none s [] = some true) : Fld s s.heap a C n d (.int k) := Fld.start ((fld_at ht).symm.trans (own_eqint h))
theorem own_fld_inj {Z : State} {h : Heap} {a : Addr} {C n d : String} {v w : Value} (F : Fld Z h a C n d v) (G : Fld Z h a C n d w) : v = w := by
  obtain ⟨c1, cf1, k1, i1, f1, h1, h2, -, -, -, -, h3⟩ := F
  obtain ⟨c2, cf2, k2, i2, f2, g1, g2, -, -, -, -, g3⟩ := G
  rw [h1] at g1; cases g1
  rw [h2] at g2; cases g2
  exact Option.some.inj (h3.symm.trans g3)
theorem own_ne {Z : State} {h : Heap} {a b : Addr} {C n d : String} {i j : Int32} (F : Fld Z h a C n d (.int i)) (G : Fld Z h b C n d (.int j)) (hij : ¬ i = j) : ¬ a = b := fun e => by
  subst e
  exact hij (Value.int.inj (own_fld_inj F G))
theorem own_keep_ext {h h' : Heap} (K : Keep h h' []) : Ext h h' := ⟨K.1, fun a c q => K.2.1 a c q nin0⟩
theorem own_sta_keep {Z : State} {h h' : Heap} {C n d C' : String} {v : Value} {b : Addr} (F : Sta Z h C n d v) (K : Keep h h' [b]) (E : Exa Z h b C') : Sta Z h' C n d v := by
  obtain ⟨cf, i, k, f, st, cell, h1, h2, h3, h4, h5, h6, h7⟩ := F
  obtain ⟨cell', k', g1, g2, g3, g4, g5⟩ := E
  refine ⟨cf, i, k, f, st, cell, h1, h2, h3, h4, K.2.1 st cell h5 (ninS (fun q => ?_) nin0), h6, h7⟩
  subst q
  rw [h5] at g1; cases g1
  rw [h6] at g4; cases g4
def pickA (k : Int32) (w_OTHER : Addr) (w_NEWLINE : Addr) (w_EXTEND : Addr) (w_REGIONAL_INDICATOR : Addr) (w_W_SEG_SPACE : Addr) (w_A_LETTER : Addr) (w_HEBREW_LETTER : Addr) (w_NUMERIC : Addr) (w_KATAKANA : Addr) (w_EXTEND_NUM_LET : Addr) (w_SOUTHEAST_ASIAN : Addr) (w_MID_LETTER : Addr) (w_MID_NUM : Addr) (w_MID_NUM_LET : Addr) (w_SINGLE_QUOTE : Addr) (w_DOUBLE_QUOTE : Addr) : Addr := if k = (0 : Int32) then w_OTHER else if k = (1 : Int32) then w_NEWLINE else if k = (2 : Int32) then w_EXTEND else if k = (3 : Int32) then w_REGIONAL_INDICATOR else if k = (4 : Int32) then w_W_SEG_SPACE else if k = (5 : Int32) then w_A_LETTER else if k = (6 : Int32) then w_HEBREW_LETTER else if k = (7 : Int32) then w_NUMERIC else if k = (8 : Int32) then w_KATAKANA else if k = (9 : Int32) then w_EXTEND_NUM_LET else if k = (10 : Int32) then w_SOUTHEAST_ASIAN else if k = (11 : Int32) then w_MID_LETTER else if k = (12 : Int32) then w_MID_NUM else if k = (13 : Int32) then w_MID_NUM_LET else if k = (14 : Int32) then w_SINGLE_QUOTE else w_DOUBLE_QUOTE
def betw (a w_MID_NUM w_MID_NUM_LET w_SINGLE_QUOTE : Addr) : Int32 := if a = w_MID_NUM then 1 else if a = w_MID_NUM_LET then 1 else if a = w_SINGLE_QUOTE then 1 else 0
theorem own_cases16 {k : Int32} (h0 : 0 ≤ k.toInt) (h1 : k.toInt < 16) : k = (0 : Int32) ∨ k = (1 : Int32) ∨ k = (2 : Int32) ∨ k = (3 : Int32) ∨ k = (4 : Int32) ∨ k = (5 : Int32) ∨ k = (6 : Int32) ∨ k = (7 : Int32) ∨ k = (8 : Int32) ∨ k = (9 : Int32) ∨ k = (10 : Int32) ∨ k = (11 : Int32) ∨ k = (12 : Int32) ∨ k = (13 : Int32) ∨ k = (14 : Int32) ∨ k = (15 : Int32) := by
  have h : k.toInt = 0 ∨ k.toInt = 1 ∨ k.toInt = 2 ∨ k.toInt = 3 ∨ k.toInt = 4 ∨ k.toInt = 5 ∨ k.toInt = 6 ∨ k.toInt = 7 ∨ k.toInt = 8 ∨ k.toInt = 9 ∨ k.toInt = 10 ∨ k.toInt = 11 ∨ k.toInt = 12 ∨ k.toInt = 13 ∨ k.toInt = 14 ∨ k.toInt = 15 := by omega
  rcases h with h | h | h | h | h | h | h | h | h | h | h | h | h | h | h | h
  · exact Or.inl (Int32.toInt_inj.mp (by rw [h]; rfl))
  · exact Or.inr (Or.inl (Int32.toInt_inj.mp (by rw [h]; rfl)))
  · exact Or.inr (Or.inr (Or.inl (Int32.toInt_inj.mp (by rw [h]; rfl))))
  · exact Or.inr (Or.inr (Or.inr (Or.inl (Int32.toInt_inj.mp (by rw [h]; rfl)))))
  · exact Or.inr (Or.inr (Or.inr (Or.inr (Or.inl (Int32.toInt_inj.mp (by rw [h]; rfl))))))
  · exact Or.inr (Or.inr (Or.inr (Or.inr (Or.inr (Or.inl (Int32.toInt_inj.mp (by rw [h]; rfl)))))))
  · exact Or.inr (Or.inr (Or.inr (Or.inr (Or.inr (Or.inr (Or.inl (Int32.toInt_inj.mp (by rw [h]; rfl))))))))
  · exact Or.inr (Or.inr (Or.inr (Or.inr (Or.inr (Or.inr (Or.inr (Or.inl (Int32.toInt_inj.mp (by rw [h]; rfl)))))))))
  · exact Or.inr (Or.inr (Or.inr (Or.inr (Or.inr (Or.inr (Or.inr (Or.inr (Or.inl (Int32.toInt_inj.mp (by rw [h]; rfl))))))))))
  · exact Or.inr (Or.inr (Or.inr (Or.inr (Or.inr (Or.inr (Or.inr (Or.inr (Or.inr (Or.inl (Int32.toInt_inj.mp (by rw [h]; rfl)))))))))))
  · exact Or.inr (Or.inr (Or.inr (Or.inr (Or.inr (Or.inr (Or.inr (Or.inr (Or.inr (Or.inr (Or.inl (Int32.toInt_inj.mp (by rw [h]; rfl))))))))))))
  · exact Or.inr (Or.inr (Or.inr (Or.inr (Or.inr (Or.inr (Or.inr (Or.inr (Or.inr (Or.inr (Or.inr (Or.inl (Int32.toInt_inj.mp (by rw [h]; rfl)))))))))))))
  · exact Or.inr (Or.inr (Or.inr (Or.inr (Or.inr (Or.inr (Or.inr (Or.inr (Or.inr (Or.inr (Or.inr (Or.inr (Or.inl (Int32.toInt_inj.mp (by rw [h]; rfl))))))))))))))
  · exact Or.inr (Or.inr (Or.inr (Or.inr (Or.inr (Or.inr (Or.inr (Or.inr (Or.inr (Or.inr (Or.inr (Or.inr (Or.inr (Or.inl (Int32.toInt_inj.mp (by rw [h]; rfl)))))))))))))))
  · exact Or.inr (Or.inr (Or.inr (Or.inr (Or.inr (Or.inr (Or.inr (Or.inr (Or.inr (Or.inr (Or.inr (Or.inr (Or.inr (Or.inr (Or.inl (Int32.toInt_inj.mp (by rw [h]; rfl))))))))))))))))
  · exact Or.inr (Or.inr (Or.inr (Or.inr (Or.inr (Or.inr (Or.inr (Or.inr (Or.inr (Or.inr (Or.inr (Or.inr (Or.inr (Or.inr (Or.inr ((Int32.toInt_inj.mp (by rw [h]; rfl)))))))))))))))))
theorem own_mask (x : Int32) : 0 ≤ (x &&& (15 : Int32)).toInt ∧ (x &&& (15 : Int32)).toInt < 16 := by
  have e1 : (x &&& (15 : Int32)).toInt = x.toInt % 2 ^ 4 := Jvm.Kit.i32_mask x 15 (k := 4) (by decide) (by decide)
  rw [e1]; omega
theorem d1_0 : decode method_2_code 0 = .ok (.iload_n 0, 1) := by decide +kernel
theorem d1_1 : decode method_2_code 1 = .ok (.ifCond .ne 7, 3) := by decide +kernel
theorem d1_4 : decode method_2_code 4 = .ok (.getstatic 7, 3) := by decide +kernel
theorem d1_7 : decode method_2_code 7 = .ok (.areturn, 1) := by decide +kernel
theorem d1_8 : decode method_2_code 8 = .ok (.iload_n 0, 1) := by decide +kernel
theorem d1_9 : decode method_2_code 9 = .ok (.iconst 1, 1) := by decide +kernel
theorem d1_10 : decode method_2_code 10 = .ok (.if_icmp .ne 7, 3) := by decide +kernel
theorem d1_13 : decode method_2_code 13 = .ok (.getstatic 13, 3) := by decide +kernel
theorem d1_16 : decode method_2_code 16 = .ok (.areturn, 1) := by decide +kernel
theorem d1_17 : decode method_2_code 17 = .ok (.iload_n 0, 1) := by decide +kernel
theorem d1_18 : decode method_2_code 18 = .ok (.iconst 2, 1) := by decide +kernel
theorem d1_19 : decode method_2_code 19 = .ok (.if_icmp .ne 7, 3) := by decide +kernel
theorem d1_22 : decode method_2_code 22 = .ok (.getstatic 16, 3) := by decide +kernel
theorem d1_25 : decode method_2_code 25 = .ok (.areturn, 1) := by decide +kernel
theorem d1_26 : decode method_2_code 26 = .ok (.iload_n 0, 1) := by decide +kernel
theorem d1_27 : decode method_2_code 27 = .ok (.iconst 3, 1) := by decide +kernel
theorem d1_28 : decode method_2_code 28 = .ok (.if_icmp .ne 7, 3) := by decide +kernel
theorem d1_31 : decode method_2_code 31 = .ok (.getstatic 19, 3) := by decide +kernel
theorem d1_34 : decode method_2_code 34 = .ok (.areturn, 1) := by decide +kernel
theorem d1_35 : decode method_2_code 35 = .ok (.iload_n 0, 1) := by decide +kernel
theorem d1_36 : decode method_2_code 36 = .ok (.iconst 4, 1) := by decide +kernel
theorem d1_37 : decode method_2_code 37 = .ok (.if_icmp .ne 7, 3) := by decide +kernel
theorem d1_40 : decode method_2_code 40 = .ok (.getstatic 22, 3) := by decide +kernel
theorem d1_43 : decode method_2_code 43 = .ok (.areturn, 1) := by decide +kernel
theorem d1_44 : decode method_2_code 44 = .ok (.iload_n 0, 1) := by decide +kernel
theorem d1_45 : decode method_2_code 45 = .ok (.iconst 5, 1) := by decide +kernel
theorem d1_46 : decode method_2_code 46 = .ok (.if_icmp .ne 7, 3) := by decide +kernel
theorem d1_49 : decode method_2_code 49 = .ok (.getstatic 25, 3) := by decide +kernel
theorem d1_52 : decode method_2_code 52 = .ok (.areturn, 1) := by decide +kernel
theorem d1_53 : decode method_2_code 53 = .ok (.iload_n 0, 1) := by decide +kernel
theorem d1_54 : decode method_2_code 54 = .ok (.bipush 6, 2) := by decide +kernel
theorem d1_56 : decode method_2_code 56 = .ok (.if_icmp .ne 7, 3) := by decide +kernel
theorem d1_59 : decode method_2_code 59 = .ok (.getstatic 28, 3) := by decide +kernel
theorem d1_62 : decode method_2_code 62 = .ok (.areturn, 1) := by decide +kernel
theorem d1_63 : decode method_2_code 63 = .ok (.iload_n 0, 1) := by decide +kernel
theorem d1_64 : decode method_2_code 64 = .ok (.bipush 7, 2) := by decide +kernel
theorem d1_66 : decode method_2_code 66 = .ok (.if_icmp .ne 7, 3) := by decide +kernel
theorem d1_69 : decode method_2_code 69 = .ok (.getstatic 31, 3) := by decide +kernel
theorem d1_72 : decode method_2_code 72 = .ok (.areturn, 1) := by decide +kernel
theorem d1_73 : decode method_2_code 73 = .ok (.iload_n 0, 1) := by decide +kernel
theorem d1_74 : decode method_2_code 74 = .ok (.bipush 8, 2) := by decide +kernel
theorem d1_76 : decode method_2_code 76 = .ok (.if_icmp .ne 7, 3) := by decide +kernel
theorem d1_79 : decode method_2_code 79 = .ok (.getstatic 34, 3) := by decide +kernel
theorem d1_82 : decode method_2_code 82 = .ok (.areturn, 1) := by decide +kernel
theorem d1_83 : decode method_2_code 83 = .ok (.iload_n 0, 1) := by decide +kernel
theorem d1_84 : decode method_2_code 84 = .ok (.bipush 9, 2) := by decide +kernel
theorem d1_86 : decode method_2_code 86 = .ok (.if_icmp .ne 7, 3) := by decide +kernel
theorem d1_89 : decode method_2_code 89 = .ok (.getstatic 37, 3) := by decide +kernel
theorem d1_92 : decode method_2_code 92 = .ok (.areturn, 1) := by decide +kernel
theorem d1_93 : decode method_2_code 93 = .ok (.iload_n 0, 1) := by decide +kernel
theorem d1_94 : decode method_2_code 94 = .ok (.bipush 10, 2) := by decide +kernel
theorem d1_96 : decode method_2_code 96 = .ok (.if_icmp .ne 7, 3) := by decide +kernel
theorem d1_99 : decode method_2_code 99 = .ok (.getstatic 40, 3) := by decide +kernel
theorem d1_102 : decode method_2_code 102 = .ok (.areturn, 1) := by decide +kernel
theorem d1_103 : decode method_2_code 103 = .ok (.iload_n 0, 1) := by decide +kernel
theorem d1_104 : decode method_2_code 104 = .ok (.bipush 11, 2) := by decide +kernel
theorem d1_106 : decode method_2_code 106 = .ok (.if_icmp .ne 7, 3) := by decide +kernel
theorem d1_109 : decode method_2_code 109 = .ok (.getstatic 43, 3) := by decide +kernel
theorem d1_112 : decode method_2_code 112 = .ok (.areturn, 1) := by decide +kernel
theorem d1_113 : decode method_2_code 113 = .ok (.iload_n 0, 1) := by decide +kernel
theorem d1_114 : decode method_2_code 114 = .ok (.bipush 12, 2) := by decide +kernel
theorem d1_116 : decode method_2_code 116 = .ok (.if_icmp .ne 7, 3) := by decide +kernel
theorem d1_119 : decode method_2_code 119 = .ok (.getstatic 46, 3) := by decide +kernel
theorem d1_122 : decode method_2_code 122 = .ok (.areturn, 1) := by decide +kernel
theorem d1_123 : decode method_2_code 123 = .ok (.iload_n 0, 1) := by decide +kernel
theorem d1_124 : decode method_2_code 124 = .ok (.bipush 13, 2) := by decide +kernel
theorem d1_126 : decode method_2_code 126 = .ok (.if_icmp .ne 7, 3) := by decide +kernel
theorem d1_129 : decode method_2_code 129 = .ok (.getstatic 49, 3) := by decide +kernel
theorem d1_132 : decode method_2_code 132 = .ok (.areturn, 1) := by decide +kernel
theorem d1_133 : decode method_2_code 133 = .ok (.iload_n 0, 1) := by decide +kernel
theorem d1_134 : decode method_2_code 134 = .ok (.bipush 14, 2) := by decide +kernel
theorem d1_136 : decode method_2_code 136 = .ok (.if_icmp .ne 7, 3) := by decide +kernel
theorem d1_139 : decode method_2_code 139 = .ok (.getstatic 52, 3) := by decide +kernel
theorem d1_142 : decode method_2_code 142 = .ok (.areturn, 1) := by decide +kernel
theorem d1_143 : decode method_2_code 143 = .ok (.getstatic 55, 3) := by decide +kernel
theorem d1_146 : decode method_2_code 146 = .ok (.areturn, 1) := by decide +kernel
theorem pn_rm1 : plainName "com/example/omomi/omomi/WordBreakIsBetweenDigitsPinLaw" = true := by first | (simp [plainName, overriddenIn]; done) | decide +kernel
theorem ef_rm1 (m : MethodId) (p1 : Int32) : entryFrame m #[(.int p1)] 1 = mkF m 0 #[.val (.int p1)] [] := by first | (simp [entryFrame, mkF, argsToLocals, Value.category]; done) | rfl
def Q_rm1 (Z : State) (p1 : Int32) (w_OTHER : Addr) (w_NEWLINE : Addr) (w_EXTEND : Addr) (w_REGIONAL_INDICATOR : Addr) (w_W_SEG_SPACE : Addr) (w_A_LETTER : Addr) (w_HEBREW_LETTER : Addr) (w_NUMERIC : Addr) (w_KATAKANA : Addr) (w_EXTEND_NUM_LET : Addr) (w_SOUTHEAST_ASIAN : Addr) (w_MID_LETTER : Addr) (w_MID_NUM : Addr) (w_MID_NUM_LET : Addr) (w_SINGLE_QUOTE : Addr) (w_DOUBLE_QUOTE : Addr) (r : Addr) (h0 : Heap) (n0 : Nat) (v : Option Value) (h : Heap) (L : List Loc) : Prop := v = some (.ref r) ∧ Fr n0 L ∧ h = h0
set_option maxRecDepth 65536 in
set_option maxHeartbeats 40000000 in
theorem rm1 (l : Launch) (Z : State) (a0 : Array Value) (hw : ∀ d ∈ tables_1, d.before a0 Z = true) (ws : List Jvm.Cond) (p1 : Int32) (w_OTHER : Addr) (w_NEWLINE : Addr) (w_EXTEND : Addr) (w_REGIONAL_INDICATOR : Addr) (w_W_SEG_SPACE : Addr) (w_A_LETTER : Addr) (w_HEBREW_LETTER : Addr) (w_NUMERIC : Addr) (w_KATAKANA : Addr) (w_EXTEND_NUM_LET : Addr) (w_SOUTHEAST_ASIAN : Addr) (w_MID_LETTER : Addr) (w_MID_NUM : Addr) (w_MID_NUM_LET : Addr) (w_SINGLE_QUOTE : Addr) (w_DOUBLE_QUOTE : Addr) (r : Addr) (h0 : Heap) (n0 : Nat) (Z0 : n0 ≤ h0.size) (S_OTHER : Sta Z h0 "com/example/omomi/omomi/WordBreak" "OTHER" "Lcom/example/omomi/omomi/WordBreak;" (.ref w_OTHER)) (S_NEWLINE : Sta Z h0 "com/example/omomi/omomi/WordBreak" "NEWLINE" "Lcom/example/omomi/omomi/WordBreak;" (.ref w_NEWLINE)) (S_EXTEND : Sta Z h0 "com/example/omomi/omomi/WordBreak" "EXTEND" "Lcom/example/omomi/omomi/WordBreak;" (.ref w_EXTEND)) (S_REGIONAL_INDICATOR : Sta Z h0 "com/example/omomi/omomi/WordBreak" "REGIONAL_INDICATOR" "Lcom/example/omomi/omomi/WordBreak;" (.ref w_REGIONAL_INDICATOR)) (S_W_SEG_SPACE : Sta Z h0 "com/example/omomi/omomi/WordBreak" "W_SEG_SPACE" "Lcom/example/omomi/omomi/WordBreak;" (.ref w_W_SEG_SPACE)) (S_A_LETTER : Sta Z h0 "com/example/omomi/omomi/WordBreak" "A_LETTER" "Lcom/example/omomi/omomi/WordBreak;" (.ref w_A_LETTER)) (S_HEBREW_LETTER : Sta Z h0 "com/example/omomi/omomi/WordBreak" "HEBREW_LETTER" "Lcom/example/omomi/omomi/WordBreak;" (.ref w_HEBREW_LETTER)) (S_NUMERIC : Sta Z h0 "com/example/omomi/omomi/WordBreak" "NUMERIC" "Lcom/example/omomi/omomi/WordBreak;" (.ref w_NUMERIC)) (S_KATAKANA : Sta Z h0 "com/example/omomi/omomi/WordBreak" "KATAKANA" "Lcom/example/omomi/omomi/WordBreak;" (.ref w_KATAKANA)) (S_EXTEND_NUM_LET : Sta Z h0 "com/example/omomi/omomi/WordBreak" "EXTEND_NUM_LET" "Lcom/example/omomi/omomi/WordBreak;" (.ref w_EXTEND_NUM_LET)) (S_SOUTHEAST_ASIAN : Sta Z h0 "com/example/omomi/omomi/WordBreak" "SOUTHEAST_ASIAN" "Lcom/example/omomi/omomi/WordBreak;" (.ref w_SOUTHEAST_ASIAN)) (S_MID_LETTER : Sta Z h0 "com/example/omomi/omomi/WordBreak" "MID_LETTER" "Lcom/example/omomi/omomi/WordBreak;" (.ref w_MID_LETTER)) (S_MID_NUM : Sta Z h0 "com/example/omomi/omomi/WordBreak" "MID_NUM" "Lcom/example/omomi/omomi/WordBreak;" (.ref w_MID_NUM)) (S_MID_NUM_LET : Sta Z h0 "com/example/omomi/omomi/WordBreak" "MID_NUM_LET" "Lcom/example/omomi/omomi/WordBreak;" (.ref w_MID_NUM_LET)) (S_SINGLE_QUOTE : Sta Z h0 "com/example/omomi/omomi/WordBreak" "SINGLE_QUOTE" "Lcom/example/omomi/omomi/WordBreak;" (.ref w_SINGLE_QUOTE)) (S_DOUBLE_QUOTE : Sta Z h0 "com/example/omomi/omomi/WordBreak" "DOUBLE_QUOTE" "Lcom/example/omomi/omomi/WordBreak;" (.ref w_DOUBLE_QUOTE)) (hret : pickA p1 w_OTHER w_NEWLINE w_EXTEND w_REGIONAL_INDICATOR w_W_SEG_SPACE w_A_LETTER w_HEBREW_LETTER w_NUMERIC w_KATAKANA w_EXTEND_NUM_LET w_SOUTHEAST_ASIAN w_MID_LETTER w_MID_NUM w_MID_NUM_LET w_SINGLE_QUOTE w_DOUBLE_QUOTE = r) :
    MetFree l (⟨"com/example/omomi/omomi/WordBreakIsBetweenDigitsPinLaw", "pick", "(I)Lcom/example/omomi/omomi/WordBreak;"⟩ : MethodName) (head1 (Jvm.Cond.code (⟨"com/example/omomi/omomi/WordBreakIsBetweenDigitsPinLaw", "pick", "(I)Lcom/example/omomi/omomi/WordBreak;"⟩ : MethodName) method_2_code 1 (some (.object "com/example/omomi/omomi/WordBreak")) :: ws) ({ frames := 0, cells := 0, slots := 0, locals := 0 } : Room)) (fun a U => a = #[(.int p1)] ∧ Z.Warmed39 U.vm ∧ U.heap = h0) (fun _ _ _ _ _ => True) (fun _ U o U' => ∃ v L, o = .returned v ∧ Q_rm1 Z p1 w_OTHER w_NEWLINE w_EXTEND w_REGIONAL_INDICATOR w_W_SEG_SPACE w_A_LETTER w_HEBREW_LETTER w_NUMERIC w_KATAKANA w_EXTEND_NUM_LET w_SOUTHEAST_ASIAN w_MID_LETTER w_MID_NUM w_MID_NUM_LET w_SINGLE_QUOTE w_DOUBLE_QUOTE r h0 n0 v U'.heap L ∧ FrameEnd U o U' L ({ frames := 0, cells := 0, slots := 0, locals := 0 } : Room).cells ({ frames := 0, cells := 0, slots := 0, locals := 0 } : Room).slots) := by
  refine MetFree.of_bodySF (plainFor_of_name pn_rm1) hisR ?_
  intro p e s m args below meth c s₁ Bd hml0 hP hK
  obtain ⟨rfl, hZ, hh⟩ := hP
  have hx := Bd.exec
  have hby := Bd.bytes
  have hml : c.maxLocals = 1 := hml0
  have hown : s.vm.findClass "com/example/omomi/omomi/WordBreakIsBetweenDigitsPinLaw" = some m.cls := findClass_of_methodNamed Bd.named
  have hnm := (name_of_methodNamed Bd.named Bd.method).1
  have X0 : Stand p l e ({ frames := 0, cells := 0, slots := 0, locals := 0 } : Room) s m #[(.int p1)] below meth c s₁ [] 0 0 := Stand.of_body Bd
  have e0 : s₁.heap = h0 := by rw [← hh, Bd.state]; rfl
  have N0 := Fr.nil n0
  have pre0 : ∀ t, Steps p.tables e below (s₁.setTop (mkF m 0 #[.val (.int p1)] [])) t → Steps p.tables e below (s₁.setTop (entryFrame m #[(.int p1)] 1)) t := fun t k => castTop (ef_rm1 m p1) k
  have pre1 : ∀ t, Steps p.tables e below (s₁.setTop (mkF m 1 #[.val (.int p1)] [(.int p1)])) t → Steps p.tables e below (s₁.setTop (entryFrame m #[(.int p1)] 1)) t := fun t k => pre0 t (by
      show Steps p.tables e below (s₁.setTop (mkF m 0 #[.val (.int p1)] [])) _
      refine XS.iloadN X0.here hx rfl (hb hby d1_0) rfl ?_
      exact k)
  by_cases hc2 : p1 = (0 : Int32)
  · obtain ⟨T3, X3, e3, st3⟩ := getS2 X0 hx hZ hown (host := "") (Or.inl (hw _ (List.mem_of_getElem? (i := 5) rfl))) Via.refl e0 S_OTHER (g := (mkF m 4 #[.val (.int p1)] [])) rfl (hb hby d1_4)
    obtain ⟨fs, hr, hrun, hended, hW, hsame⟩ := X3.leave (v := some (.ref w_OTHER)) (fun h => by rw [Bd.returns] at h; cases h)
    refine ⟨_, _, pre1 _ ?_, hrun, hended, _, _, rfl, ?_, ⟨_, rfl⟩, hW, hsame.mono (by decide) (by decide)⟩
    · show Steps p.tables e below (s₁.setTop (mkF m 1 #[.val (.int p1)] [(.int p1)])) _
      refine XS.ifNo X0.here hx rfl (hb hby d1_1) rfl ((if0 _ _).trans (teq hc2).2) ?_
      show Steps p.tables e below (s₁.setTop (mkF m 4 #[.val (.int p1)] [])) _
      refine st3 _ ?_
      show Steps p.tables e below (T3.setTop (mkF m 7 #[.val (.int p1)] [(.ref w_OTHER)])) _
      jvm_step X3.here [X3.here.top, hx, (hb hby d1_7), X3.method', Bd.returns, Value.isRef, FieldType.isReference]
      first | (intro acts; rw [hr _ acts rfl rfl rfl]) | rw [hr _ _ rfl rfl rfl]
      exact Steps.refl _
    · show Q_rm1 Z p1 w_OTHER w_NEWLINE w_EXTEND w_REGIONAL_INDICATOR w_W_SEG_SPACE w_A_LETTER w_HEBREW_LETTER w_NUMERIC w_KATAKANA w_EXTEND_NUM_LET w_SOUTHEAST_ASIAN w_MID_LETTER w_MID_NUM w_MID_NUM_LET w_SINGLE_QUOTE w_DOUBLE_QUOTE r h0 n0 _ T3.heap _
      rw [e3]
      exact ⟨by rw [← hret]; simp only [pickA, if_pos hc2], N0, rfl⟩
  · have pre4 : ∀ t, Steps p.tables e below (s₁.setTop (mkF m 10 #[.val (.int p1)] [(.int (1 : Int32)), (.int p1)])) t → Steps p.tables e below (s₁.setTop (entryFrame m #[(.int p1)] 1)) t := fun t k => pre1 t (by
        show Steps p.tables e below (s₁.setTop (mkF m 1 #[.val (.int p1)] [(.int p1)])) _
        refine XS.ifYes X0.here hx rfl (pc0 := 1) (pc' := 8) rfl (hb hby d1_1) rfl ((if0 _ _).trans (feq hc2).2) (by decide) (by decide) ?_
        show Steps p.tables e below (s₁.setTop (mkF m 8 #[.val (.int p1)] [])) _
        refine XS.iloadN X0.here hx rfl (hb hby d1_8) rfl ?_
        show Steps p.tables e below (s₁.setTop (mkF m 9 #[.val (.int p1)] [(.int p1)])) _
        refine XS.iconst X0.here hx rfl (hb hby d1_9) ?_
        exact k)
    by_cases hc5 : p1 = (1 : Int32)
    · obtain ⟨T6, X6, e6, st6⟩ := getS2 X0 hx hZ hown (host := "") (Or.inl (hw _ (List.mem_of_getElem? (i := 34) rfl))) Via.refl e0 S_NEWLINE (g := (mkF m 13 #[.val (.int p1)] [])) rfl (hb hby d1_13)
      obtain ⟨fs, hr, hrun, hended, hW, hsame⟩ := X6.leave (v := some (.ref w_NEWLINE)) (fun h => by rw [Bd.returns] at h; cases h)
      refine ⟨_, _, pre4 _ ?_, hrun, hended, _, _, rfl, ?_, ⟨_, rfl⟩, hW, hsame.mono (by decide) (by decide)⟩
      · show Steps p.tables e below (s₁.setTop (mkF m 10 #[.val (.int p1)] [(.int (1 : Int32)), (.int p1)])) _
        refine XS.icmpNo X0.here hx rfl (hb hby d1_10) rfl (teq hc5).2 ?_
        show Steps p.tables e below (s₁.setTop (mkF m 13 #[.val (.int p1)] [])) _
        refine st6 _ ?_
        show Steps p.tables e below (T6.setTop (mkF m 16 #[.val (.int p1)] [(.ref w_NEWLINE)])) _
        jvm_step X6.here [X6.here.top, hx, (hb hby d1_16), X6.method', Bd.returns, Value.isRef, FieldType.isReference]
        first | (intro acts; rw [hr _ acts rfl rfl rfl]) | rw [hr _ _ rfl rfl rfl]
        exact Steps.refl _
      · show Q_rm1 Z p1 w_OTHER w_NEWLINE w_EXTEND w_REGIONAL_INDICATOR w_W_SEG_SPACE w_A_LETTER w_HEBREW_LETTER w_NUMERIC w_KATAKANA w_EXTEND_NUM_LET w_SOUTHEAST_ASIAN w_MID_LETTER w_MID_NUM w_MID_NUM_LET w_SINGLE_QUOTE w_DOUBLE_QUOTE r h0 n0 _ T6.heap _
        rw [e6]
        exact ⟨by rw [← hret]; simp only [pickA, if_neg hc2, if_pos hc5], N0, rfl⟩
    · have pre7 : ∀ t, Steps p.tables e below (s₁.setTop (mkF m 19 #[.val (.int p1)] [(.int (2 : Int32)), (.int p1)])) t → Steps p.tables e below (s₁.setTop (entryFrame m #[(.int p1)] 1)) t := fun t k => pre4 t (by
          show Steps p.tables e below (s₁.setTop (mkF m 10 #[.val (.int p1)] [(.int (1 : Int32)), (.int p1)])) _
          refine XS.icmpYes X0.here hx rfl (pc0 := 10) (pc' := 17) rfl (hb hby d1_10) rfl (feq hc5).2 (by decide) (by decide) ?_
          show Steps p.tables e below (s₁.setTop (mkF m 17 #[.val (.int p1)] [])) _
          refine XS.iloadN X0.here hx rfl (hb hby d1_17) rfl ?_
          show Steps p.tables e below (s₁.setTop (mkF m 18 #[.val (.int p1)] [(.int p1)])) _
          refine XS.iconst X0.here hx rfl (hb hby d1_18) ?_
          exact k)
      by_cases hc8 : p1 = (2 : Int32)
      · obtain ⟨T9, X9, e9, st9⟩ := getS2 X0 hx hZ hown (host := "") (Or.inl (hw _ (List.mem_of_getElem? (i := 28) rfl))) Via.refl e0 S_EXTEND (g := (mkF m 22 #[.val (.int p1)] [])) rfl (hb hby d1_22)
        obtain ⟨fs, hr, hrun, hended, hW, hsame⟩ := X9.leave (v := some (.ref w_EXTEND)) (fun h => by rw [Bd.returns] at h; cases h)
        refine ⟨_, _, pre7 _ ?_, hrun, hended, _, _, rfl, ?_, ⟨_, rfl⟩, hW, hsame.mono (by decide) (by decide)⟩
        · show Steps p.tables e below (s₁.setTop (mkF m 19 #[.val (.int p1)] [(.int (2 : Int32)), (.int p1)])) _
          refine XS.icmpNo X0.here hx rfl (hb hby d1_19) rfl (teq hc8).2 ?_
          show Steps p.tables e below (s₁.setTop (mkF m 22 #[.val (.int p1)] [])) _
          refine st9 _ ?_
          show Steps p.tables e below (T9.setTop (mkF m 25 #[.val (.int p1)] [(.ref w_EXTEND)])) _
          jvm_step X9.here [X9.here.top, hx, (hb hby d1_25), X9.method', Bd.returns, Value.isRef, FieldType.isReference]
          first | (intro acts; rw [hr _ acts rfl rfl rfl]) | rw [hr _ _ rfl rfl rfl]
          exact Steps.refl _
        · show Q_rm1 Z p1 w_OTHER w_NEWLINE w_EXTEND w_REGIONAL_INDICATOR w_W_SEG_SPACE w_A_LETTER w_HEBREW_LETTER w_NUMERIC w_KATAKANA w_EXTEND_NUM_LET w_SOUTHEAST_ASIAN w_MID_LETTER w_MID_NUM w_MID_NUM_LET w_SINGLE_QUOTE w_DOUBLE_QUOTE r h0 n0 _ T9.heap _
          rw [e9]
          exact ⟨by rw [← hret]; simp only [pickA, if_neg hc2, if_neg hc5, if_pos hc8], N0, rfl⟩
      · have pre10 : ∀ t, Steps p.tables e below (s₁.setTop (mkF m 28 #[.val (.int p1)] [(.int (3 : Int32)), (.int p1)])) t → Steps p.tables e below (s₁.setTop (entryFrame m #[(.int p1)] 1)) t := fun t k => pre7 t (by
            show Steps p.tables e below (s₁.setTop (mkF m 19 #[.val (.int p1)] [(.int (2 : Int32)), (.int p1)])) _
            refine XS.icmpYes X0.here hx rfl (pc0 := 19) (pc' := 26) rfl (hb hby d1_19) rfl (feq hc8).2 (by decide) (by decide) ?_
            show Steps p.tables e below (s₁.setTop (mkF m 26 #[.val (.int p1)] [])) _
            refine XS.iloadN X0.here hx rfl (hb hby d1_26) rfl ?_
            show Steps p.tables e below (s₁.setTop (mkF m 27 #[.val (.int p1)] [(.int p1)])) _
            refine XS.iconst X0.here hx rfl (hb hby d1_27) ?_
            exact k)
        by_cases hc11 : p1 = (3 : Int32)
        · obtain ⟨T12, X12, e12, st12⟩ := getS2 X0 hx hZ hown (host := "") (Or.inl (hw _ (List.mem_of_getElem? (i := 19) rfl))) Via.refl e0 S_REGIONAL_INDICATOR (g := (mkF m 31 #[.val (.int p1)] [])) rfl (hb hby d1_31)
          obtain ⟨fs, hr, hrun, hended, hW, hsame⟩ := X12.leave (v := some (.ref w_REGIONAL_INDICATOR)) (fun h => by rw [Bd.returns] at h; cases h)
          refine ⟨_, _, pre10 _ ?_, hrun, hended, _, _, rfl, ?_, ⟨_, rfl⟩, hW, hsame.mono (by decide) (by decide)⟩
          · show Steps p.tables e below (s₁.setTop (mkF m 28 #[.val (.int p1)] [(.int (3 : Int32)), (.int p1)])) _
            refine XS.icmpNo X0.here hx rfl (hb hby d1_28) rfl (teq hc11).2 ?_
            show Steps p.tables e below (s₁.setTop (mkF m 31 #[.val (.int p1)] [])) _
            refine st12 _ ?_
            show Steps p.tables e below (T12.setTop (mkF m 34 #[.val (.int p1)] [(.ref w_REGIONAL_INDICATOR)])) _
            jvm_step X12.here [X12.here.top, hx, (hb hby d1_34), X12.method', Bd.returns, Value.isRef, FieldType.isReference]
            first | (intro acts; rw [hr _ acts rfl rfl rfl]) | rw [hr _ _ rfl rfl rfl]
            exact Steps.refl _
          · show Q_rm1 Z p1 w_OTHER w_NEWLINE w_EXTEND w_REGIONAL_INDICATOR w_W_SEG_SPACE w_A_LETTER w_HEBREW_LETTER w_NUMERIC w_KATAKANA w_EXTEND_NUM_LET w_SOUTHEAST_ASIAN w_MID_LETTER w_MID_NUM w_MID_NUM_LET w_SINGLE_QUOTE w_DOUBLE_QUOTE r h0 n0 _ T12.heap _
            rw [e12]
            exact ⟨by rw [← hret]; simp only [pickA, if_neg hc2, if_neg hc5, if_neg hc8, if_pos hc11], N0, rfl⟩
        · have pre13 : ∀ t, Steps p.tables e below (s₁.setTop (mkF m 37 #[.val (.int p1)] [(.int (4 : Int32)), (.int p1)])) t → Steps p.tables e below (s₁.setTop (entryFrame m #[(.int p1)] 1)) t := fun t k => pre10 t (by
              show Steps p.tables e below (s₁.setTop (mkF m 28 #[.val (.int p1)] [(.int (3 : Int32)), (.int p1)])) _
              refine XS.icmpYes X0.here hx rfl (pc0 := 28) (pc' := 35) rfl (hb hby d1_28) rfl (feq hc11).2 (by decide) (by decide) ?_
              show Steps p.tables e below (s₁.setTop (mkF m 35 #[.val (.int p1)] [])) _
              refine XS.iloadN X0.here hx rfl (hb hby d1_35) rfl ?_
              show Steps p.tables e below (s₁.setTop (mkF m 36 #[.val (.int p1)] [(.int p1)])) _
              refine XS.iconst X0.here hx rfl (hb hby d1_36) ?_
              exact k)
          by_cases hc14 : p1 = (4 : Int32)
          · obtain ⟨T15, X15, e15, st15⟩ := getS2 X0 hx hZ hown (host := "") (Or.inl (hw _ (List.mem_of_getElem? (i := 36) rfl))) Via.refl e0 S_W_SEG_SPACE (g := (mkF m 40 #[.val (.int p1)] [])) rfl (hb hby d1_40)
            obtain ⟨fs, hr, hrun, hended, hW, hsame⟩ := X15.leave (v := some (.ref w_W_SEG_SPACE)) (fun h => by rw [Bd.returns] at h; cases h)
            refine ⟨_, _, pre13 _ ?_, hrun, hended, _, _, rfl, ?_, ⟨_, rfl⟩, hW, hsame.mono (by decide) (by decide)⟩
            · show Steps p.tables e below (s₁.setTop (mkF m 37 #[.val (.int p1)] [(.int (4 : Int32)), (.int p1)])) _
              refine XS.icmpNo X0.here hx rfl (hb hby d1_37) rfl (teq hc14).2 ?_
              show Steps p.tables e below (s₁.setTop (mkF m 40 #[.val (.int p1)] [])) _
              refine st15 _ ?_
              show Steps p.tables e below (T15.setTop (mkF m 43 #[.val (.int p1)] [(.ref w_W_SEG_SPACE)])) _
              jvm_step X15.here [X15.here.top, hx, (hb hby d1_43), X15.method', Bd.returns, Value.isRef, FieldType.isReference]
              first | (intro acts; rw [hr _ acts rfl rfl rfl]) | rw [hr _ _ rfl rfl rfl]
              exact Steps.refl _
            · show Q_rm1 Z p1 w_OTHER w_NEWLINE w_EXTEND w_REGIONAL_INDICATOR w_W_SEG_SPACE w_A_LETTER w_HEBREW_LETTER w_NUMERIC w_KATAKANA w_EXTEND_NUM_LET w_SOUTHEAST_ASIAN w_MID_LETTER w_MID_NUM w_MID_NUM_LET w_SINGLE_QUOTE w_DOUBLE_QUOTE r h0 n0 _ T15.heap _
              rw [e15]
              exact ⟨by rw [← hret]; simp only [pickA, if_neg hc2, if_neg hc5, if_neg hc8, if_neg hc11, if_pos hc14], N0, rfl⟩
          · have pre16 : ∀ t, Steps p.tables e below (s₁.setTop (mkF m 46 #[.val (.int p1)] [(.int (5 : Int32)), (.int p1)])) t → Steps p.tables e below (s₁.setTop (entryFrame m #[(.int p1)] 1)) t := fun t k => pre13 t (by
                show Steps p.tables e below (s₁.setTop (mkF m 37 #[.val (.int p1)] [(.int (4 : Int32)), (.int p1)])) _
                refine XS.icmpYes X0.here hx rfl (pc0 := 37) (pc' := 44) rfl (hb hby d1_37) rfl (feq hc14).2 (by decide) (by decide) ?_
                show Steps p.tables e below (s₁.setTop (mkF m 44 #[.val (.int p1)] [])) _
                refine XS.iloadN X0.here hx rfl (hb hby d1_44) rfl ?_
                show Steps p.tables e below (s₁.setTop (mkF m 45 #[.val (.int p1)] [(.int p1)])) _
                refine XS.iconst X0.here hx rfl (hb hby d1_45) ?_
                exact k)
            by_cases hc17 : p1 = (5 : Int32)
            · obtain ⟨T18, X18, e18, st18⟩ := getS2 X0 hx hZ hown (host := "") (Or.inl (hw _ (List.mem_of_getElem? (i := 44) rfl))) Via.refl e0 S_A_LETTER (g := (mkF m 49 #[.val (.int p1)] [])) rfl (hb hby d1_49)
              obtain ⟨fs, hr, hrun, hended, hW, hsame⟩ := X18.leave (v := some (.ref w_A_LETTER)) (fun h => by rw [Bd.returns] at h; cases h)
              refine ⟨_, _, pre16 _ ?_, hrun, hended, _, _, rfl, ?_, ⟨_, rfl⟩, hW, hsame.mono (by decide) (by decide)⟩
              · show Steps p.tables e below (s₁.setTop (mkF m 46 #[.val (.int p1)] [(.int (5 : Int32)), (.int p1)])) _
                refine XS.icmpNo X0.here hx rfl (hb hby d1_46) rfl (teq hc17).2 ?_
                show Steps p.tables e below (s₁.setTop (mkF m 49 #[.val (.int p1)] [])) _
                refine st18 _ ?_
                show Steps p.tables e below (T18.setTop (mkF m 52 #[.val (.int p1)] [(.ref w_A_LETTER)])) _
                jvm_step X18.here [X18.here.top, hx, (hb hby d1_52), X18.method', Bd.returns, Value.isRef, FieldType.isReference]
                first | (intro acts; rw [hr _ acts rfl rfl rfl]) | rw [hr _ _ rfl rfl rfl]
                exact Steps.refl _
              · show Q_rm1 Z p1 w_OTHER w_NEWLINE w_EXTEND w_REGIONAL_INDICATOR w_W_SEG_SPACE w_A_LETTER w_HEBREW_LETTER w_NUMERIC w_KATAKANA w_EXTEND_NUM_LET w_SOUTHEAST_ASIAN w_MID_LETTER w_MID_NUM w_MID_NUM_LET w_SINGLE_QUOTE w_DOUBLE_QUOTE r h0 n0 _ T18.heap _
                rw [e18]
                exact ⟨by rw [← hret]; simp only [pickA, if_neg hc2, if_neg hc5, if_neg hc8, if_neg hc11, if_neg hc14, if_pos hc17], N0, rfl⟩
            · have pre19 : ∀ t, Steps p.tables e below (s₁.setTop (mkF m 56 #[.val (.int p1)] [(.int (6 : Int32)), (.int p1)])) t → Steps p.tables e below (s₁.setTop (entryFrame m #[(.int p1)] 1)) t := fun t k => pre16 t (by
                  show Steps p.tables e below (s₁.setTop (mkF m 46 #[.val (.int p1)] [(.int (5 : Int32)), (.int p1)])) _
                  refine XS.icmpYes X0.here hx rfl (pc0 := 46) (pc' := 53) rfl (hb hby d1_46) rfl (feq hc17).2 (by decide) (by decide) ?_
                  show Steps p.tables e below (s₁.setTop (mkF m 53 #[.val (.int p1)] [])) _
                  refine XS.iloadN X0.here hx rfl (hb hby d1_53) rfl ?_
                  show Steps p.tables e below (s₁.setTop (mkF m 54 #[.val (.int p1)] [(.int p1)])) _
                  refine XS.bipush X0.here hx rfl (hb hby d1_54) ?_
                  exact k)
              by_cases hc20 : p1 = (6 : Int32)
              · obtain ⟨T21, X21, e21, st21⟩ := getS2 X0 hx hZ hown (host := "") (Or.inl (hw _ (List.mem_of_getElem? (i := 40) rfl))) Via.refl e0 S_HEBREW_LETTER (g := (mkF m 59 #[.val (.int p1)] [])) rfl (hb hby d1_59)
                obtain ⟨fs, hr, hrun, hended, hW, hsame⟩ := X21.leave (v := some (.ref w_HEBREW_LETTER)) (fun h => by rw [Bd.returns] at h; cases h)
                refine ⟨_, _, pre19 _ ?_, hrun, hended, _, _, rfl, ?_, ⟨_, rfl⟩, hW, hsame.mono (by decide) (by decide)⟩
                · show Steps p.tables e below (s₁.setTop (mkF m 56 #[.val (.int p1)] [(.int (6 : Int32)), (.int p1)])) _
                  refine XS.icmpNo X0.here hx rfl (hb hby d1_56) rfl (teq hc20).2 ?_
                  show Steps p.tables e below (s₁.setTop (mkF m 59 #[.val (.int p1)] [])) _
                  refine st21 _ ?_
                  show Steps p.tables e below (T21.setTop (mkF m 62 #[.val (.int p1)] [(.ref w_HEBREW_LETTER)])) _
                  jvm_step X21.here [X21.here.top, hx, (hb hby d1_62), X21.method', Bd.returns, Value.isRef, FieldType.isReference]
                  first | (intro acts; rw [hr _ acts rfl rfl rfl]) | rw [hr _ _ rfl rfl rfl]
                  exact Steps.refl _
                · show Q_rm1 Z p1 w_OTHER w_NEWLINE w_EXTEND w_REGIONAL_INDICATOR w_W_SEG_SPACE w_A_LETTER w_HEBREW_LETTER w_NUMERIC w_KATAKANA w_EXTEND_NUM_LET w_SOUTHEAST_ASIAN w_MID_LETTER w_MID_NUM w_MID_NUM_LET w_SINGLE_QUOTE w_DOUBLE_QUOTE r h0 n0 _ T21.heap _
                  rw [e21]
                  exact ⟨by rw [← hret]; simp only [pickA, if_neg hc2, if_neg hc5, if_neg hc8, if_neg hc11, if_neg hc14, if_neg hc17, if_pos hc20], N0, rfl⟩
              · have pre22 : ∀ t, Steps p.tables e below (s₁.setTop (mkF m 66 #[.val (.int p1)] [(.int (7 : Int32)), (.int p1)])) t → Steps p.tables e below (s₁.setTop (entryFrame m #[(.int p1)] 1)) t := fun t k => pre19 t (by
                    show Steps p.tables e below (s₁.setTop (mkF m 56 #[.val (.int p1)] [(.int (6 : Int32)), (.int p1)])) _
                    refine XS.icmpYes X0.here hx rfl (pc0 := 56) (pc' := 63) rfl (hb hby d1_56) rfl (feq hc20).2 (by decide) (by decide) ?_
                    show Steps p.tables e below (s₁.setTop (mkF m 63 #[.val (.int p1)] [])) _
                    refine XS.iloadN X0.here hx rfl (hb hby d1_63) rfl ?_
                    show Steps p.tables e below (s₁.setTop (mkF m 64 #[.val (.int p1)] [(.int p1)])) _
                    refine XS.bipush X0.here hx rfl (hb hby d1_64) ?_
                    exact k)
                by_cases hc23 : p1 = (7 : Int32)
                · obtain ⟨T24, X24, e24, st24⟩ := getS2 X0 hx hZ hown (host := "") (Or.inl (hw _ (List.mem_of_getElem? (i := 26) rfl))) Via.refl e0 S_NUMERIC (g := (mkF m 69 #[.val (.int p1)] [])) rfl (hb hby d1_69)
                  obtain ⟨fs, hr, hrun, hended, hW, hsame⟩ := X24.leave (v := some (.ref w_NUMERIC)) (fun h => by rw [Bd.returns] at h; cases h)
                  refine ⟨_, _, pre22 _ ?_, hrun, hended, _, _, rfl, ?_, ⟨_, rfl⟩, hW, hsame.mono (by decide) (by decide)⟩
                  · show Steps p.tables e below (s₁.setTop (mkF m 66 #[.val (.int p1)] [(.int (7 : Int32)), (.int p1)])) _
                    refine XS.icmpNo X0.here hx rfl (hb hby d1_66) rfl (teq hc23).2 ?_
                    show Steps p.tables e below (s₁.setTop (mkF m 69 #[.val (.int p1)] [])) _
                    refine st24 _ ?_
                    show Steps p.tables e below (T24.setTop (mkF m 72 #[.val (.int p1)] [(.ref w_NUMERIC)])) _
                    jvm_step X24.here [X24.here.top, hx, (hb hby d1_72), X24.method', Bd.returns, Value.isRef, FieldType.isReference]
                    first | (intro acts; rw [hr _ acts rfl rfl rfl]) | rw [hr _ _ rfl rfl rfl]
                    exact Steps.refl _
                  · show Q_rm1 Z p1 w_OTHER w_NEWLINE w_EXTEND w_REGIONAL_INDICATOR w_W_SEG_SPACE w_A_LETTER w_HEBREW_LETTER w_NUMERIC w_KATAKANA w_EXTEND_NUM_LET w_SOUTHEAST_ASIAN w_MID_LETTER w_MID_NUM w_MID_NUM_LET w_SINGLE_QUOTE w_DOUBLE_QUOTE r h0 n0 _ T24.heap _
                    rw [e24]
                    exact ⟨by rw [← hret]; simp only [pickA, if_neg hc2, if_neg hc5, if_neg hc8, if_neg hc11, if_neg hc14, if_neg hc17, if_neg hc20, if_pos hc23], N0, rfl⟩
                · have pre25 : ∀ t, Steps p.tables e below (s₁.setTop (mkF m 76 #[.val (.int p1)] [(.int (8 : Int32)), (.int p1)])) t → Steps p.tables e below (s₁.setTop (entryFrame m #[(.int p1)] 1)) t := fun t k => pre22 t (by
                      show Steps p.tables e below (s₁.setTop (mkF m 66 #[.val (.int p1)] [(.int (7 : Int32)), (.int p1)])) _
                      refine XS.icmpYes X0.here hx rfl (pc0 := 66) (pc' := 73) rfl (hb hby d1_66) rfl (feq hc23).2 (by decide) (by decide) ?_
                      show Steps p.tables e below (s₁.setTop (mkF m 73 #[.val (.int p1)] [])) _
                      refine XS.iloadN X0.here hx rfl (hb hby d1_73) rfl ?_
                      show Steps p.tables e below (s₁.setTop (mkF m 74 #[.val (.int p1)] [(.int p1)])) _
                      refine XS.bipush X0.here hx rfl (hb hby d1_74) ?_
                      exact k)
                  by_cases hc26 : p1 = (8 : Int32)
                  · obtain ⟨T27, X27, e27, st27⟩ := getS2 X0 hx hZ hown (host := "") (Or.inl (hw _ (List.mem_of_getElem? (i := 32) rfl))) Via.refl e0 S_KATAKANA (g := (mkF m 79 #[.val (.int p1)] [])) rfl (hb hby d1_79)
                    obtain ⟨fs, hr, hrun, hended, hW, hsame⟩ := X27.leave (v := some (.ref w_KATAKANA)) (fun h => by rw [Bd.returns] at h; cases h)
                    refine ⟨_, _, pre25 _ ?_, hrun, hended, _, _, rfl, ?_, ⟨_, rfl⟩, hW, hsame.mono (by decide) (by decide)⟩
                    · show Steps p.tables e below (s₁.setTop (mkF m 76 #[.val (.int p1)] [(.int (8 : Int32)), (.int p1)])) _
                      refine XS.icmpNo X0.here hx rfl (hb hby d1_76) rfl (teq hc26).2 ?_
                      show Steps p.tables e below (s₁.setTop (mkF m 79 #[.val (.int p1)] [])) _
                      refine st27 _ ?_
                      show Steps p.tables e below (T27.setTop (mkF m 82 #[.val (.int p1)] [(.ref w_KATAKANA)])) _
                      jvm_step X27.here [X27.here.top, hx, (hb hby d1_82), X27.method', Bd.returns, Value.isRef, FieldType.isReference]
                      first | (intro acts; rw [hr _ acts rfl rfl rfl]) | rw [hr _ _ rfl rfl rfl]
                      exact Steps.refl _
                    · show Q_rm1 Z p1 w_OTHER w_NEWLINE w_EXTEND w_REGIONAL_INDICATOR w_W_SEG_SPACE w_A_LETTER w_HEBREW_LETTER w_NUMERIC w_KATAKANA w_EXTEND_NUM_LET w_SOUTHEAST_ASIAN w_MID_LETTER w_MID_NUM w_MID_NUM_LET w_SINGLE_QUOTE w_DOUBLE_QUOTE r h0 n0 _ T27.heap _
                      rw [e27]
                      exact ⟨by rw [← hret]; simp only [pickA, if_neg hc2, if_neg hc5, if_neg hc8, if_neg hc11, if_neg hc14, if_neg hc17, if_neg hc20, if_neg hc23, if_pos hc26], N0, rfl⟩
                  · have pre28 : ∀ t, Steps p.tables e below (s₁.setTop (mkF m 86 #[.val (.int p1)] [(.int (9 : Int32)), (.int p1)])) t → Steps p.tables e below (s₁.setTop (entryFrame m #[(.int p1)] 1)) t := fun t k => pre25 t (by
                        show Steps p.tables e below (s₁.setTop (mkF m 76 #[.val (.int p1)] [(.int (8 : Int32)), (.int p1)])) _
                        refine XS.icmpYes X0.here hx rfl (pc0 := 76) (pc' := 83) rfl (hb hby d1_76) rfl (feq hc26).2 (by decide) (by decide) ?_
                        show Steps p.tables e below (s₁.setTop (mkF m 83 #[.val (.int p1)] [])) _
                        refine XS.iloadN X0.here hx rfl (hb hby d1_83) rfl ?_
                        show Steps p.tables e below (s₁.setTop (mkF m 84 #[.val (.int p1)] [(.int p1)])) _
                        refine XS.bipush X0.here hx rfl (hb hby d1_84) ?_
                        exact k)
                    by_cases hc29 : p1 = (9 : Int32)
                    · obtain ⟨T30, X30, e30, st30⟩ := getS2 X0 hx hZ hown (host := "") (Or.inl (hw _ (List.mem_of_getElem? (i := 42) rfl))) Via.refl e0 S_EXTEND_NUM_LET (g := (mkF m 89 #[.val (.int p1)] [])) rfl (hb hby d1_89)
                      obtain ⟨fs, hr, hrun, hended, hW, hsame⟩ := X30.leave (v := some (.ref w_EXTEND_NUM_LET)) (fun h => by rw [Bd.returns] at h; cases h)
                      refine ⟨_, _, pre28 _ ?_, hrun, hended, _, _, rfl, ?_, ⟨_, rfl⟩, hW, hsame.mono (by decide) (by decide)⟩
                      · show Steps p.tables e below (s₁.setTop (mkF m 86 #[.val (.int p1)] [(.int (9 : Int32)), (.int p1)])) _
                        refine XS.icmpNo X0.here hx rfl (hb hby d1_86) rfl (teq hc29).2 ?_
                        show Steps p.tables e below (s₁.setTop (mkF m 89 #[.val (.int p1)] [])) _
                        refine st30 _ ?_
                        show Steps p.tables e below (T30.setTop (mkF m 92 #[.val (.int p1)] [(.ref w_EXTEND_NUM_LET)])) _
                        jvm_step X30.here [X30.here.top, hx, (hb hby d1_92), X30.method', Bd.returns, Value.isRef, FieldType.isReference]
                        first | (intro acts; rw [hr _ acts rfl rfl rfl]) | rw [hr _ _ rfl rfl rfl]
                        exact Steps.refl _
                      · show Q_rm1 Z p1 w_OTHER w_NEWLINE w_EXTEND w_REGIONAL_INDICATOR w_W_SEG_SPACE w_A_LETTER w_HEBREW_LETTER w_NUMERIC w_KATAKANA w_EXTEND_NUM_LET w_SOUTHEAST_ASIAN w_MID_LETTER w_MID_NUM w_MID_NUM_LET w_SINGLE_QUOTE w_DOUBLE_QUOTE r h0 n0 _ T30.heap _
                        rw [e30]
                        exact ⟨by rw [← hret]; simp only [pickA, if_neg hc2, if_neg hc5, if_neg hc8, if_neg hc11, if_neg hc14, if_neg hc17, if_neg hc20, if_neg hc23, if_neg hc26, if_pos hc29], N0, rfl⟩
                    · have pre31 : ∀ t, Steps p.tables e below (s₁.setTop (mkF m 96 #[.val (.int p1)] [(.int (10 : Int32)), (.int p1)])) t → Steps p.tables e below (s₁.setTop (entryFrame m #[(.int p1)] 1)) t := fun t k => pre28 t (by
                          show Steps p.tables e below (s₁.setTop (mkF m 86 #[.val (.int p1)] [(.int (9 : Int32)), (.int p1)])) _
                          refine XS.icmpYes X0.here hx rfl (pc0 := 86) (pc' := 93) rfl (hb hby d1_86) rfl (feq hc29).2 (by decide) (by decide) ?_
                          show Steps p.tables e below (s₁.setTop (mkF m 93 #[.val (.int p1)] [])) _
                          refine XS.iloadN X0.here hx rfl (hb hby d1_93) rfl ?_
                          show Steps p.tables e below (s₁.setTop (mkF m 94 #[.val (.int p1)] [(.int p1)])) _
                          refine XS.bipush X0.here hx rfl (hb hby d1_94) ?_
                          exact k)
                      by_cases hc32 : p1 = (10 : Int32)
                      · obtain ⟨T33, X33, e33, st33⟩ := getS2 X0 hx hZ hown (host := "") (Or.inl (hw _ (List.mem_of_getElem? (i := 24) rfl))) Via.refl e0 S_SOUTHEAST_ASIAN (g := (mkF m 99 #[.val (.int p1)] [])) rfl (hb hby d1_99)
                        obtain ⟨fs, hr, hrun, hended, hW, hsame⟩ := X33.leave (v := some (.ref w_SOUTHEAST_ASIAN)) (fun h => by rw [Bd.returns] at h; cases h)
                        refine ⟨_, _, pre31 _ ?_, hrun, hended, _, _, rfl, ?_, ⟨_, rfl⟩, hW, hsame.mono (by decide) (by decide)⟩
                        · show Steps p.tables e below (s₁.setTop (mkF m 96 #[.val (.int p1)] [(.int (10 : Int32)), (.int p1)])) _
                          refine XS.icmpNo X0.here hx rfl (hb hby d1_96) rfl (teq hc32).2 ?_
                          show Steps p.tables e below (s₁.setTop (mkF m 99 #[.val (.int p1)] [])) _
                          refine st33 _ ?_
                          show Steps p.tables e below (T33.setTop (mkF m 102 #[.val (.int p1)] [(.ref w_SOUTHEAST_ASIAN)])) _
                          jvm_step X33.here [X33.here.top, hx, (hb hby d1_102), X33.method', Bd.returns, Value.isRef, FieldType.isReference]
                          first | (intro acts; rw [hr _ acts rfl rfl rfl]) | rw [hr _ _ rfl rfl rfl]
                          exact Steps.refl _
                        · show Q_rm1 Z p1 w_OTHER w_NEWLINE w_EXTEND w_REGIONAL_INDICATOR w_W_SEG_SPACE w_A_LETTER w_HEBREW_LETTER w_NUMERIC w_KATAKANA w_EXTEND_NUM_LET w_SOUTHEAST_ASIAN w_MID_LETTER w_MID_NUM w_MID_NUM_LET w_SINGLE_QUOTE w_DOUBLE_QUOTE r h0 n0 _ T33.heap _
                          rw [e33]
                          exact ⟨by rw [← hret]; simp only [pickA, if_neg hc2, if_neg hc5, if_neg hc8, if_neg hc11, if_neg hc14, if_neg hc17, if_neg hc20, if_neg hc23, if_neg hc26, if_neg hc29, if_pos hc32], N0, rfl⟩
                      · have pre34 : ∀ t, Steps p.tables e below (s₁.setTop (mkF m 106 #[.val (.int p1)] [(.int (11 : Int32)), (.int p1)])) t → Steps p.tables e below (s₁.setTop (entryFrame m #[(.int p1)] 1)) t := fun t k => pre31 t (by
                            show Steps p.tables e below (s₁.setTop (mkF m 96 #[.val (.int p1)] [(.int (10 : Int32)), (.int p1)])) _
                            refine XS.icmpYes X0.here hx rfl (pc0 := 96) (pc' := 103) rfl (hb hby d1_96) rfl (feq hc32).2 (by decide) (by decide) ?_
                            show Steps p.tables e below (s₁.setTop (mkF m 103 #[.val (.int p1)] [])) _
                            refine XS.iloadN X0.here hx rfl (hb hby d1_103) rfl ?_
                            show Steps p.tables e below (s₁.setTop (mkF m 104 #[.val (.int p1)] [(.int p1)])) _
                            refine XS.bipush X0.here hx rfl (hb hby d1_104) ?_
                            exact k)
                        by_cases hc35 : p1 = (11 : Int32)
                        · obtain ⟨T36, X36, e36, st36⟩ := getS2 X0 hx hZ hown (host := "") (Or.inl (hw _ (List.mem_of_getElem? (i := 30) rfl))) Via.refl e0 S_MID_LETTER (g := (mkF m 109 #[.val (.int p1)] [])) rfl (hb hby d1_109)
                          obtain ⟨fs, hr, hrun, hended, hW, hsame⟩ := X36.leave (v := some (.ref w_MID_LETTER)) (fun h => by rw [Bd.returns] at h; cases h)
                          refine ⟨_, _, pre34 _ ?_, hrun, hended, _, _, rfl, ?_, ⟨_, rfl⟩, hW, hsame.mono (by decide) (by decide)⟩
                          · show Steps p.tables e below (s₁.setTop (mkF m 106 #[.val (.int p1)] [(.int (11 : Int32)), (.int p1)])) _
                            refine XS.icmpNo X0.here hx rfl (hb hby d1_106) rfl (teq hc35).2 ?_
                            show Steps p.tables e below (s₁.setTop (mkF m 109 #[.val (.int p1)] [])) _
                            refine st36 _ ?_
                            show Steps p.tables e below (T36.setTop (mkF m 112 #[.val (.int p1)] [(.ref w_MID_LETTER)])) _
                            jvm_step X36.here [X36.here.top, hx, (hb hby d1_112), X36.method', Bd.returns, Value.isRef, FieldType.isReference]
                            first | (intro acts; rw [hr _ acts rfl rfl rfl]) | rw [hr _ _ rfl rfl rfl]
                            exact Steps.refl _
                          · show Q_rm1 Z p1 w_OTHER w_NEWLINE w_EXTEND w_REGIONAL_INDICATOR w_W_SEG_SPACE w_A_LETTER w_HEBREW_LETTER w_NUMERIC w_KATAKANA w_EXTEND_NUM_LET w_SOUTHEAST_ASIAN w_MID_LETTER w_MID_NUM w_MID_NUM_LET w_SINGLE_QUOTE w_DOUBLE_QUOTE r h0 n0 _ T36.heap _
                            rw [e36]
                            exact ⟨by rw [← hret]; simp only [pickA, if_neg hc2, if_neg hc5, if_neg hc8, if_neg hc11, if_neg hc14, if_neg hc17, if_neg hc20, if_neg hc23, if_neg hc26, if_neg hc29, if_neg hc32, if_pos hc35], N0, rfl⟩
                        · have pre37 : ∀ t, Steps p.tables e below (s₁.setTop (mkF m 116 #[.val (.int p1)] [(.int (12 : Int32)), (.int p1)])) t → Steps p.tables e below (s₁.setTop (entryFrame m #[(.int p1)] 1)) t := fun t k => pre34 t (by
                              show Steps p.tables e below (s₁.setTop (mkF m 106 #[.val (.int p1)] [(.int (11 : Int32)), (.int p1)])) _
                              refine XS.icmpYes X0.here hx rfl (pc0 := 106) (pc' := 113) rfl (hb hby d1_106) rfl (feq hc35).2 (by decide) (by decide) ?_
                              show Steps p.tables e below (s₁.setTop (mkF m 113 #[.val (.int p1)] [])) _
                              refine XS.iloadN X0.here hx rfl (hb hby d1_113) rfl ?_
                              show Steps p.tables e below (s₁.setTop (mkF m 114 #[.val (.int p1)] [(.int p1)])) _
                              refine XS.bipush X0.here hx rfl (hb hby d1_114) ?_
                              exact k)
                          by_cases hc38 : p1 = (12 : Int32)
                          · obtain ⟨T39, X39, e39, st39⟩ := getS2 X0 hx hZ hown (host := "") (Or.inl (hw _ (List.mem_of_getElem? (i := 38) rfl))) Via.refl e0 S_MID_NUM (g := (mkF m 119 #[.val (.int p1)] [])) rfl (hb hby d1_119)
                            obtain ⟨fs, hr, hrun, hended, hW, hsame⟩ := X39.leave (v := some (.ref w_MID_NUM)) (fun h => by rw [Bd.returns] at h; cases h)
                            refine ⟨_, _, pre37 _ ?_, hrun, hended, _, _, rfl, ?_, ⟨_, rfl⟩, hW, hsame.mono (by decide) (by decide)⟩
                            · show Steps p.tables e below (s₁.setTop (mkF m 116 #[.val (.int p1)] [(.int (12 : Int32)), (.int p1)])) _
                              refine XS.icmpNo X0.here hx rfl (hb hby d1_116) rfl (teq hc38).2 ?_
                              show Steps p.tables e below (s₁.setTop (mkF m 119 #[.val (.int p1)] [])) _
                              refine st39 _ ?_
                              show Steps p.tables e below (T39.setTop (mkF m 122 #[.val (.int p1)] [(.ref w_MID_NUM)])) _
                              jvm_step X39.here [X39.here.top, hx, (hb hby d1_122), X39.method', Bd.returns, Value.isRef, FieldType.isReference]
                              first | (intro acts; rw [hr _ acts rfl rfl rfl]) | rw [hr _ _ rfl rfl rfl]
                              exact Steps.refl _
                            · show Q_rm1 Z p1 w_OTHER w_NEWLINE w_EXTEND w_REGIONAL_INDICATOR w_W_SEG_SPACE w_A_LETTER w_HEBREW_LETTER w_NUMERIC w_KATAKANA w_EXTEND_NUM_LET w_SOUTHEAST_ASIAN w_MID_LETTER w_MID_NUM w_MID_NUM_LET w_SINGLE_QUOTE w_DOUBLE_QUOTE r h0 n0 _ T39.heap _
                              rw [e39]
                              exact ⟨by rw [← hret]; simp only [pickA, if_neg hc2, if_neg hc5, if_neg hc8, if_neg hc11, if_neg hc14, if_neg hc17, if_neg hc20, if_neg hc23, if_neg hc26, if_neg hc29, if_neg hc32, if_neg hc35, if_pos hc38], N0, rfl⟩
                          · have pre40 : ∀ t, Steps p.tables e below (s₁.setTop (mkF m 126 #[.val (.int p1)] [(.int (13 : Int32)), (.int p1)])) t → Steps p.tables e below (s₁.setTop (entryFrame m #[(.int p1)] 1)) t := fun t k => pre37 t (by
                                show Steps p.tables e below (s₁.setTop (mkF m 116 #[.val (.int p1)] [(.int (12 : Int32)), (.int p1)])) _
                                refine XS.icmpYes X0.here hx rfl (pc0 := 116) (pc' := 123) rfl (hb hby d1_116) rfl (feq hc38).2 (by decide) (by decide) ?_
                                show Steps p.tables e below (s₁.setTop (mkF m 123 #[.val (.int p1)] [])) _
                                refine XS.iloadN X0.here hx rfl (hb hby d1_123) rfl ?_
                                show Steps p.tables e below (s₁.setTop (mkF m 124 #[.val (.int p1)] [(.int p1)])) _
                                refine XS.bipush X0.here hx rfl (hb hby d1_124) ?_
                                exact k)
                            by_cases hc41 : p1 = (13 : Int32)
                            · obtain ⟨T42, X42, e42, st42⟩ := getS2 X0 hx hZ hown (host := "") (Or.inl (hw _ (List.mem_of_getElem? (i := 39) rfl))) Via.refl e0 S_MID_NUM_LET (g := (mkF m 129 #[.val (.int p1)] [])) rfl (hb hby d1_129)
                              obtain ⟨fs, hr, hrun, hended, hW, hsame⟩ := X42.leave (v := some (.ref w_MID_NUM_LET)) (fun h => by rw [Bd.returns] at h; cases h)
                              refine ⟨_, _, pre40 _ ?_, hrun, hended, _, _, rfl, ?_, ⟨_, rfl⟩, hW, hsame.mono (by decide) (by decide)⟩
                              · show Steps p.tables e below (s₁.setTop (mkF m 126 #[.val (.int p1)] [(.int (13 : Int32)), (.int p1)])) _
                                refine XS.icmpNo X0.here hx rfl (hb hby d1_126) rfl (teq hc41).2 ?_
                                show Steps p.tables e below (s₁.setTop (mkF m 129 #[.val (.int p1)] [])) _
                                refine st42 _ ?_
                                show Steps p.tables e below (T42.setTop (mkF m 132 #[.val (.int p1)] [(.ref w_MID_NUM_LET)])) _
                                jvm_step X42.here [X42.here.top, hx, (hb hby d1_132), X42.method', Bd.returns, Value.isRef, FieldType.isReference]
                                first | (intro acts; rw [hr _ acts rfl rfl rfl]) | rw [hr _ _ rfl rfl rfl]
                                exact Steps.refl _
                              · show Q_rm1 Z p1 w_OTHER w_NEWLINE w_EXTEND w_REGIONAL_INDICATOR w_W_SEG_SPACE w_A_LETTER w_HEBREW_LETTER w_NUMERIC w_KATAKANA w_EXTEND_NUM_LET w_SOUTHEAST_ASIAN w_MID_LETTER w_MID_NUM w_MID_NUM_LET w_SINGLE_QUOTE w_DOUBLE_QUOTE r h0 n0 _ T42.heap _
                                rw [e42]
                                exact ⟨by rw [← hret]; simp only [pickA, if_neg hc2, if_neg hc5, if_neg hc8, if_neg hc11, if_neg hc14, if_neg hc17, if_neg hc20, if_neg hc23, if_neg hc26, if_neg hc29, if_neg hc32, if_neg hc35, if_neg hc38, if_pos hc41], N0, rfl⟩
                            · have pre43 : ∀ t, Steps p.tables e below (s₁.setTop (mkF m 136 #[.val (.int p1)] [(.int (14 : Int32)), (.int p1)])) t → Steps p.tables e below (s₁.setTop (entryFrame m #[(.int p1)] 1)) t := fun t k => pre40 t (by
                                  show Steps p.tables e below (s₁.setTop (mkF m 126 #[.val (.int p1)] [(.int (13 : Int32)), (.int p1)])) _
                                  refine XS.icmpYes X0.here hx rfl (pc0 := 126) (pc' := 133) rfl (hb hby d1_126) rfl (feq hc41).2 (by decide) (by decide) ?_
                                  show Steps p.tables e below (s₁.setTop (mkF m 133 #[.val (.int p1)] [])) _
                                  refine XS.iloadN X0.here hx rfl (hb hby d1_133) rfl ?_
                                  show Steps p.tables e below (s₁.setTop (mkF m 134 #[.val (.int p1)] [(.int p1)])) _
                                  refine XS.bipush X0.here hx rfl (hb hby d1_134) ?_
                                  exact k)
                              by_cases hc44 : p1 = (14 : Int32)
                              · obtain ⟨T45, X45, e45, st45⟩ := getS2 X0 hx hZ hown (host := "") (Or.inl (hw _ (List.mem_of_getElem? (i := 21) rfl))) Via.refl e0 S_SINGLE_QUOTE (g := (mkF m 139 #[.val (.int p1)] [])) rfl (hb hby d1_139)
                                obtain ⟨fs, hr, hrun, hended, hW, hsame⟩ := X45.leave (v := some (.ref w_SINGLE_QUOTE)) (fun h => by rw [Bd.returns] at h; cases h)
                                refine ⟨_, _, pre43 _ ?_, hrun, hended, _, _, rfl, ?_, ⟨_, rfl⟩, hW, hsame.mono (by decide) (by decide)⟩
                                · show Steps p.tables e below (s₁.setTop (mkF m 136 #[.val (.int p1)] [(.int (14 : Int32)), (.int p1)])) _
                                  refine XS.icmpNo X0.here hx rfl (hb hby d1_136) rfl (teq hc44).2 ?_
                                  show Steps p.tables e below (s₁.setTop (mkF m 139 #[.val (.int p1)] [])) _
                                  refine st45 _ ?_
                                  show Steps p.tables e below (T45.setTop (mkF m 142 #[.val (.int p1)] [(.ref w_SINGLE_QUOTE)])) _
                                  jvm_step X45.here [X45.here.top, hx, (hb hby d1_142), X45.method', Bd.returns, Value.isRef, FieldType.isReference]
                                  first | (intro acts; rw [hr _ acts rfl rfl rfl]) | rw [hr _ _ rfl rfl rfl]
                                  exact Steps.refl _
                                · show Q_rm1 Z p1 w_OTHER w_NEWLINE w_EXTEND w_REGIONAL_INDICATOR w_W_SEG_SPACE w_A_LETTER w_HEBREW_LETTER w_NUMERIC w_KATAKANA w_EXTEND_NUM_LET w_SOUTHEAST_ASIAN w_MID_LETTER w_MID_NUM w_MID_NUM_LET w_SINGLE_QUOTE w_DOUBLE_QUOTE r h0 n0 _ T45.heap _
                                  rw [e45]
                                  exact ⟨by rw [← hret]; simp only [pickA, if_neg hc2, if_neg hc5, if_neg hc8, if_neg hc11, if_neg hc14, if_neg hc17, if_neg hc20, if_neg hc23, if_neg hc26, if_neg hc29, if_neg hc32, if_neg hc35, if_neg hc38, if_neg hc41, if_pos hc44], N0, rfl⟩
                              · obtain ⟨T46, X46, e46, st46⟩ := getS2 X0 hx hZ hown (host := "") (Or.inl (hw _ (List.mem_of_getElem? (i := 22) rfl))) Via.refl e0 S_DOUBLE_QUOTE (g := (mkF m 143 #[.val (.int p1)] [])) rfl (hb hby d1_143)
                                obtain ⟨fs, hr, hrun, hended, hW, hsame⟩ := X46.leave (v := some (.ref w_DOUBLE_QUOTE)) (fun h => by rw [Bd.returns] at h; cases h)
                                refine ⟨_, _, pre43 _ ?_, hrun, hended, _, _, rfl, ?_, ⟨_, rfl⟩, hW, hsame.mono (by decide) (by decide)⟩
                                · show Steps p.tables e below (s₁.setTop (mkF m 136 #[.val (.int p1)] [(.int (14 : Int32)), (.int p1)])) _
                                  refine XS.icmpYes X0.here hx rfl (pc0 := 136) (pc' := 143) rfl (hb hby d1_136) rfl (feq hc44).2 (by decide) (by decide) ?_
                                  show Steps p.tables e below (s₁.setTop (mkF m 143 #[.val (.int p1)] [])) _
                                  refine st46 _ ?_
                                  show Steps p.tables e below (T46.setTop (mkF m 146 #[.val (.int p1)] [(.ref w_DOUBLE_QUOTE)])) _
                                  jvm_step X46.here [X46.here.top, hx, (hb hby d1_146), X46.method', Bd.returns, Value.isRef, FieldType.isReference]
                                  first | (intro acts; rw [hr _ acts rfl rfl rfl]) | rw [hr _ _ rfl rfl rfl]
                                  exact Steps.refl _
                                · show Q_rm1 Z p1 w_OTHER w_NEWLINE w_EXTEND w_REGIONAL_INDICATOR w_W_SEG_SPACE w_A_LETTER w_HEBREW_LETTER w_NUMERIC w_KATAKANA w_EXTEND_NUM_LET w_SOUTHEAST_ASIAN w_MID_LETTER w_MID_NUM w_MID_NUM_LET w_SINGLE_QUOTE w_DOUBLE_QUOTE r h0 n0 _ T46.heap _
                                  rw [e46]
                                  exact ⟨by rw [← hret]; simp only [pickA, if_neg hc2, if_neg hc5, if_neg hc8, if_neg hc11, if_neg hc14, if_neg hc17, if_neg hc20, if_neg hc23, if_neg hc26, if_neg hc29, if_neg hc32, if_neg hc35, if_neg hc38, if_neg hc41, if_neg hc44], N0, rfl⟩
theorem d2_0 : decode prog_34_method_7_code 0 = .ok (.aload_n 0, 1) := by decide +kernel
theorem d2_1 : decode prog_34_method_7_code 1 = .ok (.getstatic 40, 3) := by decide +kernel
theorem d2_4 : decode prog_34_method_7_code 4 = .ok (.if_acmp .eq 17, 3) := by decide +kernel
theorem d2_7 : decode prog_34_method_7_code 7 = .ok (.aload_n 0, 1) := by decide +kernel
theorem d2_8 : decode prog_34_method_7_code 8 = .ok (.getstatic 43, 3) := by decide +kernel
theorem d2_11 : decode prog_34_method_7_code 11 = .ok (.if_acmp .eq 10, 3) := by decide +kernel
theorem d2_14 : decode prog_34_method_7_code 14 = .ok (.aload_n 0, 1) := by decide +kernel
theorem d2_15 : decode prog_34_method_7_code 15 = .ok (.getstatic 46, 3) := by decide +kernel
theorem d2_18 : decode prog_34_method_7_code 18 = .ok (.if_acmp .ne 7, 3) := by decide +kernel
theorem d2_21 : decode prog_34_method_7_code 21 = .ok (.iconst 1, 1) := by decide +kernel
theorem d2_22 : decode prog_34_method_7_code 22 = .ok (.goto 4, 3) := by decide +kernel
theorem d2_25 : decode prog_34_method_7_code 25 = .ok (.iconst 0, 1) := by decide +kernel
theorem d2_26 : decode prog_34_method_7_code 26 = .ok (.ireturn, 1) := by decide +kernel
theorem pn_rm2 : plainName "com/example/omomi/omomi/WordBreak" = true := by first | (simp [plainName, overriddenIn]; done) | decide +kernel
theorem ef_rm2 (m : MethodId) (a1 : Addr) : entryFrame m #[(.ref a1)] 1 = mkF m 0 #[.val (.ref a1)] [] := by first | (simp [entryFrame, mkF, argsToLocals, Value.category]; done) | rfl
def Q_rm2 (Z : State) (a1 : Addr) (w_MID_NUM : Addr) (w_MID_NUM_LET : Addr) (w_SINGLE_QUOTE : Addr) (r : Int32) (h0 : Heap) (n0 : Nat) (v : Option Value) (h : Heap) (L : List Loc) : Prop := v = some (.int r) ∧ Fr n0 L ∧ h = h0
set_option maxRecDepth 65536 in
set_option maxHeartbeats 40000000 in
theorem rm2 (l : Launch) (Z : State) (a0 : Array Value) (hw : ∀ d ∈ tables_1, d.before a0 Z = true) (ws : List Jvm.Cond) (a1 : Addr) (w_MID_NUM : Addr) (w_MID_NUM_LET : Addr) (w_SINGLE_QUOTE : Addr) (r : Int32) (h0 : Heap) (n0 : Nat) (Z0 : n0 ≤ h0.size) (S_MID_NUM : Sta Z h0 "com/example/omomi/omomi/WordBreak" "MID_NUM" "Lcom/example/omomi/omomi/WordBreak;" (.ref w_MID_NUM)) (S_MID_NUM_LET : Sta Z h0 "com/example/omomi/omomi/WordBreak" "MID_NUM_LET" "Lcom/example/omomi/omomi/WordBreak;" (.ref w_MID_NUM_LET)) (S_SINGLE_QUOTE : Sta Z h0 "com/example/omomi/omomi/WordBreak" "SINGLE_QUOTE" "Lcom/example/omomi/omomi/WordBreak;" (.ref w_SINGLE_QUOTE)) (hret : betw a1 w_MID_NUM w_MID_NUM_LET w_SINGLE_QUOTE = r) :
    MetFree l (⟨"com/example/omomi/omomi/WordBreak", "isBetweenDigits", "()Z"⟩ : MethodName) (head1 (Jvm.Cond.code (⟨"com/example/omomi/omomi/WordBreak", "isBetweenDigits", "()Z"⟩ : MethodName) prog_34_method_7_code 1 (some .boolean) :: ws) ({ frames := 0, cells := 0, slots := 0, locals := 0 } : Room)) (fun a U => a = #[(.ref a1)] ∧ Z.Warmed39 U.vm ∧ U.heap = h0) (fun _ _ _ _ _ => True) (fun _ U o U' => ∃ v L, o = .returned v ∧ Q_rm2 Z a1 w_MID_NUM w_MID_NUM_LET w_SINGLE_QUOTE r h0 n0 v U'.heap L ∧ FrameEnd U o U' L ({ frames := 0, cells := 0, slots := 0, locals := 0 } : Room).cells ({ frames := 0, cells := 0, slots := 0, locals := 0 } : Room).slots) := by
  refine MetFree.of_bodySF (plainFor_of_name pn_rm2) hisR ?_
  intro p e s m args below meth c s₁ Bd hml0 hP hK
  obtain ⟨rfl, hZ, hh⟩ := hP
  have hx := Bd.exec
  have hby := Bd.bytes
  have hml : c.maxLocals = 1 := hml0
  have hown : s.vm.findClass "com/example/omomi/omomi/WordBreak" = some m.cls := findClass_of_methodNamed Bd.named
  have hnm := (name_of_methodNamed Bd.named Bd.method).1
  have X0 : Stand p l e ({ frames := 0, cells := 0, slots := 0, locals := 0 } : Room) s m #[(.ref a1)] below meth c s₁ [] 0 0 := Stand.of_body Bd
  have e0 : s₁.heap = h0 := by rw [← hh, Bd.state]; rfl
  have N0 := Fr.nil n0
  have pre0 : ∀ t, Steps p.tables e below (s₁.setTop (mkF m 0 #[.val (.ref a1)] [])) t → Steps p.tables e below (s₁.setTop (entryFrame m #[(.ref a1)] 1)) t := fun t k => castTop (ef_rm2 m a1) k
  obtain ⟨T1, X1, e1, st1⟩ := getS2 X0 hx hZ hown (host := "") (Or.inl (hw _ (List.mem_of_getElem? (i := 13) rfl))) Via.refl e0 S_MID_NUM (g := (mkF m 1 #[.val (.ref a1)] [(.ref a1)])) rfl (hb hby d2_1)
  have pre2 : ∀ t, Steps p.tables e below (T1.setTop (mkF m 4 #[.val (.ref a1)] [(.ref w_MID_NUM), (.ref a1)])) t → Steps p.tables e below (s₁.setTop (entryFrame m #[(.ref a1)] 1)) t := fun t k => pre0 t (by
      show Steps p.tables e below (s₁.setTop (mkF m 0 #[.val (.ref a1)] [])) _
      refine XS.aloadN X0.here hx rfl (hb hby d2_0) rfl rfl ?_
      show Steps p.tables e below (s₁.setTop (mkF m 1 #[.val (.ref a1)] [(.ref a1)])) _
      refine st1 _ ?_
      exact k)
  by_cases hc3 : a1 = w_MID_NUM
  · obtain ⟨fs, hr, hrun, hended, hW, hsame⟩ := X1.leave (v := some (.int (1 : Int32))) (fun h => by rw [Bd.returns] at h; cases h)
    refine ⟨_, _, pre2 _ ?_, hrun, hended, _, _, rfl, ?_, ⟨_, rfl⟩, hW, hsame.mono (by decide) (by decide)⟩
    · show Steps p.tables e below (T1.setTop (mkF m 4 #[.val (.ref a1)] [(.ref w_MID_NUM), (.ref a1)])) _
      refine Jvm.RoadKit.acmp (g := (mkF m 4 #[.val (.ref a1)] [(.ref w_MID_NUM), (.ref a1)])) X1 hx rfl rfl rfl (pc0 := 4) (pc' := 21) (same := true) rfl (hb hby d2_4) rfl (decide_eq_true (congrArg Value.ref hc3)) (by decide) (by decide) ?_
      show Steps p.tables e below (T1.setTop (mkF m 21 #[.val (.ref a1)] [])) _
      refine XS.iconst X1.here hx rfl (hb hby d2_21) ?_
      show Steps p.tables e below (T1.setTop (mkF m 22 #[.val (.ref a1)] [(.int (1 : Int32))])) _
      refine XS.goto X1.here hx rfl (pc0 := 22) (pc' := 26) rfl (hb hby d2_22) (by decide) (by decide) ?_
      show Steps p.tables e below (T1.setTop (mkF m 26 #[.val (.ref a1)] [(.int (1 : Int32))])) _
      exact retN X1 hx (t := .boolean) Bd.returns (by simp) (hb hby d2_26) hr
    · show Q_rm2 Z a1 w_MID_NUM w_MID_NUM_LET w_SINGLE_QUOTE r h0 n0 _ T1.heap _
      rw [e1]
      exact ⟨by rw [← hret]; simp only [betw, if_pos hc3], N0, rfl⟩
  · obtain ⟨T4, X4, e4, st4⟩ := getS2 X1 hx hZ hown (host := "") (Or.inl (hw _ (List.mem_of_getElem? (i := 15) rfl))) Via.refl e1 S_MID_NUM_LET (g := (mkF m 8 #[.val (.ref a1)] [(.ref a1)])) rfl (hb hby d2_8)
    have pre5 : ∀ t, Steps p.tables e below (T4.setTop (mkF m 11 #[.val (.ref a1)] [(.ref w_MID_NUM_LET), (.ref a1)])) t → Steps p.tables e below (s₁.setTop (entryFrame m #[(.ref a1)] 1)) t := fun t k => pre2 t (by
        show Steps p.tables e below (T1.setTop (mkF m 4 #[.val (.ref a1)] [(.ref w_MID_NUM), (.ref a1)])) _
        refine Jvm.RoadKit.acmp (g := (mkF m 4 #[.val (.ref a1)] [(.ref w_MID_NUM), (.ref a1)])) X1 hx rfl rfl rfl (pc0 := 4) (pc' := 7) (same := false) rfl (hb hby d2_4) rfl (decide_eq_false fun q => hc3 (Value.ref.inj q)) (by decide) (by decide) ?_
        show Steps p.tables e below (T1.setTop (mkF m 7 #[.val (.ref a1)] [])) _
        refine XS.aloadN X1.here hx rfl (hb hby d2_7) rfl rfl ?_
        show Steps p.tables e below (T1.setTop (mkF m 8 #[.val (.ref a1)] [(.ref a1)])) _
        refine st4 _ ?_
        exact k)
    by_cases hc6 : a1 = w_MID_NUM_LET
    · obtain ⟨fs, hr, hrun, hended, hW, hsame⟩ := X4.leave (v := some (.int (1 : Int32))) (fun h => by rw [Bd.returns] at h; cases h)
      refine ⟨_, _, pre5 _ ?_, hrun, hended, _, _, rfl, ?_, ⟨_, rfl⟩, hW, hsame.mono (by decide) (by decide)⟩
      · show Steps p.tables e below (T4.setTop (mkF m 11 #[.val (.ref a1)] [(.ref w_MID_NUM_LET), (.ref a1)])) _
        refine Jvm.RoadKit.acmp (g := (mkF m 11 #[.val (.ref a1)] [(.ref w_MID_NUM_LET), (.ref a1)])) X4 hx rfl rfl rfl (pc0 := 11) (pc' := 21) (same := true) rfl (hb hby d2_11) rfl (decide_eq_true (congrArg Value.ref hc6)) (by decide) (by decide) ?_
        show Steps p.tables e below (T4.setTop (mkF m 21 #[.val (.ref a1)] [])) _
        refine XS.iconst X4.here hx rfl (hb hby d2_21) ?_
        show Steps p.tables e below (T4.setTop (mkF m 22 #[.val (.ref a1)] [(.int (1 : Int32))])) _
        refine XS.goto X4.here hx rfl (pc0 := 22) (pc' := 26) rfl (hb hby d2_22) (by decide) (by decide) ?_
        show Steps p.tables e below (T4.setTop (mkF m 26 #[.val (.ref a1)] [(.int (1 : Int32))])) _
        exact retN X4 hx (t := .boolean) Bd.returns (by simp) (hb hby d2_26) hr
      · show Q_rm2 Z a1 w_MID_NUM w_MID_NUM_LET w_SINGLE_QUOTE r h0 n0 _ T4.heap _
        rw [e4]
        exact ⟨by rw [← hret]; simp only [betw, if_neg hc3, if_pos hc6], N0, rfl⟩
    · obtain ⟨T7, X7, e7, st7⟩ := getS2 X4 hx hZ hown (host := "") (Or.inl (hw _ (List.mem_of_getElem? (i := 17) rfl))) Via.refl e4 S_SINGLE_QUOTE (g := (mkF m 15 #[.val (.ref a1)] [(.ref a1)])) rfl (hb hby d2_15)
      have pre8 : ∀ t, Steps p.tables e below (T7.setTop (mkF m 18 #[.val (.ref a1)] [(.ref w_SINGLE_QUOTE), (.ref a1)])) t → Steps p.tables e below (s₁.setTop (entryFrame m #[(.ref a1)] 1)) t := fun t k => pre5 t (by
          show Steps p.tables e below (T4.setTop (mkF m 11 #[.val (.ref a1)] [(.ref w_MID_NUM_LET), (.ref a1)])) _
          refine Jvm.RoadKit.acmp (g := (mkF m 11 #[.val (.ref a1)] [(.ref w_MID_NUM_LET), (.ref a1)])) X4 hx rfl rfl rfl (pc0 := 11) (pc' := 14) (same := false) rfl (hb hby d2_11) rfl (decide_eq_false fun q => hc6 (Value.ref.inj q)) (by decide) (by decide) ?_
          show Steps p.tables e below (T4.setTop (mkF m 14 #[.val (.ref a1)] [])) _
          refine XS.aloadN X4.here hx rfl (hb hby d2_14) rfl rfl ?_
          show Steps p.tables e below (T4.setTop (mkF m 15 #[.val (.ref a1)] [(.ref a1)])) _
          refine st7 _ ?_
          exact k)
      by_cases hc9 : a1 = w_SINGLE_QUOTE
      · obtain ⟨fs, hr, hrun, hended, hW, hsame⟩ := X7.leave (v := some (.int (1 : Int32))) (fun h => by rw [Bd.returns] at h; cases h)
        refine ⟨_, _, pre8 _ ?_, hrun, hended, _, _, rfl, ?_, ⟨_, rfl⟩, hW, hsame.mono (by decide) (by decide)⟩
        · show Steps p.tables e below (T7.setTop (mkF m 18 #[.val (.ref a1)] [(.ref w_SINGLE_QUOTE), (.ref a1)])) _
          refine Jvm.RoadKit.acmp (g := (mkF m 18 #[.val (.ref a1)] [(.ref w_SINGLE_QUOTE), (.ref a1)])) X7 hx rfl rfl rfl (pc0 := 18) (pc' := 21) (same := true) rfl (hb hby d2_18) rfl (decide_eq_true (congrArg Value.ref hc9)) (by decide) (by decide) ?_
          show Steps p.tables e below (T7.setTop (mkF m 21 #[.val (.ref a1)] [])) _
          refine XS.iconst X7.here hx rfl (hb hby d2_21) ?_
          show Steps p.tables e below (T7.setTop (mkF m 22 #[.val (.ref a1)] [(.int (1 : Int32))])) _
          refine XS.goto X7.here hx rfl (pc0 := 22) (pc' := 26) rfl (hb hby d2_22) (by decide) (by decide) ?_
          show Steps p.tables e below (T7.setTop (mkF m 26 #[.val (.ref a1)] [(.int (1 : Int32))])) _
          exact retN X7 hx (t := .boolean) Bd.returns (by simp) (hb hby d2_26) hr
        · show Q_rm2 Z a1 w_MID_NUM w_MID_NUM_LET w_SINGLE_QUOTE r h0 n0 _ T7.heap _
          rw [e7]
          exact ⟨by rw [← hret]; simp only [betw, if_neg hc3, if_neg hc6, if_pos hc9], N0, rfl⟩
      · obtain ⟨fs, hr, hrun, hended, hW, hsame⟩ := X7.leave (v := some (.int (0 : Int32))) (fun h => by rw [Bd.returns] at h; cases h)
        refine ⟨_, _, pre8 _ ?_, hrun, hended, _, _, rfl, ?_, ⟨_, rfl⟩, hW, hsame.mono (by decide) (by decide)⟩
        · show Steps p.tables e below (T7.setTop (mkF m 18 #[.val (.ref a1)] [(.ref w_SINGLE_QUOTE), (.ref a1)])) _
          refine Jvm.RoadKit.acmp (g := (mkF m 18 #[.val (.ref a1)] [(.ref w_SINGLE_QUOTE), (.ref a1)])) X7 hx rfl rfl rfl (pc0 := 18) (pc' := 25) (same := false) rfl (hb hby d2_18) rfl (decide_eq_false fun q => hc9 (Value.ref.inj q)) (by decide) (by decide) ?_
          show Steps p.tables e below (T7.setTop (mkF m 25 #[.val (.ref a1)] [])) _
          refine XS.iconst X7.here hx rfl (hb hby d2_25) ?_
          show Steps p.tables e below (T7.setTop (mkF m 26 #[.val (.ref a1)] [(.int (0 : Int32))])) _
          exact retN X7 hx (t := .boolean) Bd.returns (by simp) (hb hby d2_26) hr
        · show Q_rm2 Z a1 w_MID_NUM w_MID_NUM_LET w_SINGLE_QUOTE r h0 n0 _ T7.heap _
          rw [e7]
          exact ⟨by rw [← hret]; simp only [betw, if_neg hc3, if_neg hc6, if_neg hc9], N0, rfl⟩
theorem pn_rm0 : plainName "com/example/omomi/omomi/WordBreakIsBetweenDigitsPinLaw" = true := by first | (simp [plainName, overriddenIn]; done) | decide +kernel
theorem pd_rm0_0 : parseMethodDescriptor "(I)Lcom/example/omomi/omomi/WordBreak;" = some ⟨[.int], some (.object "com/example/omomi/omomi/WordBreak")⟩ := by decide +kernel
theorem pd_rm0_1 : parseMethodDescriptor "()Z" = some ⟨[], some .boolean⟩ := by decide +kernel
theorem ef_rm0 (m : MethodId) (p1 : Int32) : entryFrame m #[(.int p1)] maxLocals = mkF m 0 #[.val (.int p1), .unset, .unset, .unset] [] := by first | (simp [entryFrame, mkF, argsToLocals, Value.category, maxLocals]; done) | rfl
def Q_rm0 (Z : State) (p1 : Int32) (w_OTHER : Addr) (w_NEWLINE : Addr) (w_EXTEND : Addr) (w_REGIONAL_INDICATOR : Addr) (w_W_SEG_SPACE : Addr) (w_A_LETTER : Addr) (w_HEBREW_LETTER : Addr) (w_NUMERIC : Addr) (w_KATAKANA : Addr) (w_EXTEND_NUM_LET : Addr) (w_SOUTHEAST_ASIAN : Addr) (w_MID_LETTER : Addr) (w_MID_NUM : Addr) (w_MID_NUM_LET : Addr) (w_SINGLE_QUOTE : Addr) (w_DOUBLE_QUOTE : Addr) (h0 : Heap) (n0 : Nat) (v : Option Value) (h : Heap) (L : List Loc) : Prop := v = some (.int (1 : Int32)) ∧ Fr n0 L
set_option maxRecDepth 65536 in
set_option maxHeartbeats 40000000 in
theorem rm0 (l : Launch) (Z : State) (a0 : Array Value) (hw : ∀ d ∈ tables_1, d.before a0 Z = true) (ws : List Jvm.Cond) (p1 : Int32) (w_OTHER : Addr) (w_NEWLINE : Addr) (w_EXTEND : Addr) (w_REGIONAL_INDICATOR : Addr) (w_W_SEG_SPACE : Addr) (w_A_LETTER : Addr) (w_HEBREW_LETTER : Addr) (w_NUMERIC : Addr) (w_KATAKANA : Addr) (w_EXTEND_NUM_LET : Addr) (w_SOUTHEAST_ASIAN : Addr) (w_MID_LETTER : Addr) (w_MID_NUM : Addr) (w_MID_NUM_LET : Addr) (w_SINGLE_QUOTE : Addr) (w_DOUBLE_QUOTE : Addr) (h0 : Heap) (n0 : Nat) (Z0 : n0 ≤ h0.size) (S_OTHER : Sta Z h0 "com/example/omomi/omomi/WordBreak" "OTHER" "Lcom/example/omomi/omomi/WordBreak;" (.ref w_OTHER)) (S_NEWLINE : Sta Z h0 "com/example/omomi/omomi/WordBreak" "NEWLINE" "Lcom/example/omomi/omomi/WordBreak;" (.ref w_NEWLINE)) (S_EXTEND : Sta Z h0 "com/example/omomi/omomi/WordBreak" "EXTEND" "Lcom/example/omomi/omomi/WordBreak;" (.ref w_EXTEND)) (S_REGIONAL_INDICATOR : Sta Z h0 "com/example/omomi/omomi/WordBreak" "REGIONAL_INDICATOR" "Lcom/example/omomi/omomi/WordBreak;" (.ref w_REGIONAL_INDICATOR)) (S_W_SEG_SPACE : Sta Z h0 "com/example/omomi/omomi/WordBreak" "W_SEG_SPACE" "Lcom/example/omomi/omomi/WordBreak;" (.ref w_W_SEG_SPACE)) (S_A_LETTER : Sta Z h0 "com/example/omomi/omomi/WordBreak" "A_LETTER" "Lcom/example/omomi/omomi/WordBreak;" (.ref w_A_LETTER)) (S_HEBREW_LETTER : Sta Z h0 "com/example/omomi/omomi/WordBreak" "HEBREW_LETTER" "Lcom/example/omomi/omomi/WordBreak;" (.ref w_HEBREW_LETTER)) (S_NUMERIC : Sta Z h0 "com/example/omomi/omomi/WordBreak" "NUMERIC" "Lcom/example/omomi/omomi/WordBreak;" (.ref w_NUMERIC)) (S_KATAKANA : Sta Z h0 "com/example/omomi/omomi/WordBreak" "KATAKANA" "Lcom/example/omomi/omomi/WordBreak;" (.ref w_KATAKANA)) (S_EXTEND_NUM_LET : Sta Z h0 "com/example/omomi/omomi/WordBreak" "EXTEND_NUM_LET" "Lcom/example/omomi/omomi/WordBreak;" (.ref w_EXTEND_NUM_LET)) (S_SOUTHEAST_ASIAN : Sta Z h0 "com/example/omomi/omomi/WordBreak" "SOUTHEAST_ASIAN" "Lcom/example/omomi/omomi/WordBreak;" (.ref w_SOUTHEAST_ASIAN)) (S_MID_LETTER : Sta Z h0 "com/example/omomi/omomi/WordBreak" "MID_LETTER" "Lcom/example/omomi/omomi/WordBreak;" (.ref w_MID_LETTER)) (S_MID_NUM : Sta Z h0 "com/example/omomi/omomi/WordBreak" "MID_NUM" "Lcom/example/omomi/omomi/WordBreak;" (.ref w_MID_NUM)) (S_MID_NUM_LET : Sta Z h0 "com/example/omomi/omomi/WordBreak" "MID_NUM_LET" "Lcom/example/omomi/omomi/WordBreak;" (.ref w_MID_NUM_LET)) (S_SINGLE_QUOTE : Sta Z h0 "com/example/omomi/omomi/WordBreak" "SINGLE_QUOTE" "Lcom/example/omomi/omomi/WordBreak;" (.ref w_SINGLE_QUOTE)) (S_DOUBLE_QUOTE : Sta Z h0 "com/example/omomi/omomi/WordBreak" "DOUBLE_QUOTE" "Lcom/example/omomi/omomi/WordBreak;" (.ref w_DOUBLE_QUOTE)) (E_OTHER : Exa Z h0 w_OTHER "com/example/omomi/omomi/WordBreak") (E_NEWLINE : Exa Z h0 w_NEWLINE "com/example/omomi/omomi/WordBreak") (E_EXTEND : Exa Z h0 w_EXTEND "com/example/omomi/omomi/WordBreak") (E_REGIONAL_INDICATOR : Exa Z h0 w_REGIONAL_INDICATOR "com/example/omomi/omomi/WordBreak") (E_W_SEG_SPACE : Exa Z h0 w_W_SEG_SPACE "com/example/omomi/omomi/WordBreak") (E_A_LETTER : Exa Z h0 w_A_LETTER "com/example/omomi/omomi/WordBreak") (E_HEBREW_LETTER : Exa Z h0 w_HEBREW_LETTER "com/example/omomi/omomi/WordBreak") (E_NUMERIC : Exa Z h0 w_NUMERIC "com/example/omomi/omomi/WordBreak") (E_KATAKANA : Exa Z h0 w_KATAKANA "com/example/omomi/omomi/WordBreak") (E_EXTEND_NUM_LET : Exa Z h0 w_EXTEND_NUM_LET "com/example/omomi/omomi/WordBreak") (E_SOUTHEAST_ASIAN : Exa Z h0 w_SOUTHEAST_ASIAN "com/example/omomi/omomi/WordBreak") (E_MID_LETTER : Exa Z h0 w_MID_LETTER "com/example/omomi/omomi/WordBreak") (E_MID_NUM : Exa Z h0 w_MID_NUM "com/example/omomi/omomi/WordBreak") (E_MID_NUM_LET : Exa Z h0 w_MID_NUM_LET "com/example/omomi/omomi/WordBreak") (E_SINGLE_QUOTE : Exa Z h0 w_SINGLE_QUOTE "com/example/omomi/omomi/WordBreak") (E_DOUBLE_QUOTE : Exa Z h0 w_DOUBLE_QUOTE "com/example/omomi/omomi/WordBreak") (O_OTHER : Fld Z h0 w_OTHER "java/lang/Enum" "ordinal" "I" (.int (0 : Int32))) (O_NEWLINE : Fld Z h0 w_NEWLINE "java/lang/Enum" "ordinal" "I" (.int (1 : Int32))) (O_EXTEND : Fld Z h0 w_EXTEND "java/lang/Enum" "ordinal" "I" (.int (2 : Int32))) (O_REGIONAL_INDICATOR : Fld Z h0 w_REGIONAL_INDICATOR "java/lang/Enum" "ordinal" "I" (.int (3 : Int32))) (O_W_SEG_SPACE : Fld Z h0 w_W_SEG_SPACE "java/lang/Enum" "ordinal" "I" (.int (4 : Int32))) (O_A_LETTER : Fld Z h0 w_A_LETTER "java/lang/Enum" "ordinal" "I" (.int (5 : Int32))) (O_HEBREW_LETTER : Fld Z h0 w_HEBREW_LETTER "java/lang/Enum" "ordinal" "I" (.int (6 : Int32))) (O_NUMERIC : Fld Z h0 w_NUMERIC "java/lang/Enum" "ordinal" "I" (.int (7 : Int32))) (O_KATAKANA : Fld Z h0 w_KATAKANA "java/lang/Enum" "ordinal" "I" (.int (8 : Int32))) (O_EXTEND_NUM_LET : Fld Z h0 w_EXTEND_NUM_LET "java/lang/Enum" "ordinal" "I" (.int (9 : Int32))) (O_SOUTHEAST_ASIAN : Fld Z h0 w_SOUTHEAST_ASIAN "java/lang/Enum" "ordinal" "I" (.int (10 : Int32))) (O_MID_LETTER : Fld Z h0 w_MID_LETTER "java/lang/Enum" "ordinal" "I" (.int (11 : Int32))) (O_MID_NUM : Fld Z h0 w_MID_NUM "java/lang/Enum" "ordinal" "I" (.int (12 : Int32))) (O_MID_NUM_LET : Fld Z h0 w_MID_NUM_LET "java/lang/Enum" "ordinal" "I" (.int (13 : Int32))) (O_SINGLE_QUOTE : Fld Z h0 w_SINGLE_QUOTE "java/lang/Enum" "ordinal" "I" (.int (14 : Int32))) (O_DOUBLE_QUOTE : Fld Z h0 w_DOUBLE_QUOTE "java/lang/Enum" "ordinal" "I" (.int (15 : Int32))) :
    MetFree l x (head1 (Jvm.Cond.code x code maxLocals ret :: ws) room_1) (fun a U => a = #[(.int p1)] ∧ Z.Warmed39 U.vm ∧ U.heap = h0) (fun _ _ _ _ _ => True) (fun _ U o U' => ∃ v L, o = .returned v ∧ Q_rm0 Z p1 w_OTHER w_NEWLINE w_EXTEND w_REGIONAL_INDICATOR w_W_SEG_SPACE w_A_LETTER w_HEBREW_LETTER w_NUMERIC w_KATAKANA w_EXTEND_NUM_LET w_SOUTHEAST_ASIAN w_MID_LETTER w_MID_NUM w_MID_NUM_LET w_SINGLE_QUOTE w_DOUBLE_QUOTE h0 n0 v U'.heap L ∧ FrameEnd U o U' L room_1.cells room_1.slots) := by
  refine MetFree.of_bodySF (plainFor_of_name pn_rm0) hisR ?_
  intro p e s m args below meth c s₁ Bd hml0 hP hK
  obtain ⟨rfl, hZ, hh⟩ := hP
  have hx := Bd.exec
  have hby := Bd.bytes
  have hml : c.maxLocals = 4 := hml0
  have hown : s.vm.findClass "com/example/omomi/omomi/WordBreakIsBetweenDigitsPinLaw" = some m.cls := findClass_of_methodNamed Bd.named
  have hnm := (name_of_methodNamed Bd.named Bd.method).1
  have X0 : Stand p l e room_1 s m #[(.int p1)] below meth c s₁ [] 0 0 := Stand.of_body Bd
  have e0 : s₁.heap = h0 := by rw [← hh, Bd.state]; rfl
  have N0 := Fr.nil n0
  have pre0 : ∀ t, Steps p.tables e below (s₁.setTop (mkF m 0 #[.val (.int p1), .unset, .unset, .unset] [])) t → Steps p.tables e below (s₁.setTop (entryFrame m #[(.int p1)] maxLocals)) t := fun t k => castTop (ef_rm0 m p1) k
  have n_OTHER_MID_NUM : ¬ w_OTHER = w_MID_NUM := own_ne O_OTHER O_MID_NUM (by decide)
  have n_OTHER_MID_NUM_LET : ¬ w_OTHER = w_MID_NUM_LET := own_ne O_OTHER O_MID_NUM_LET (by decide)
  have n_OTHER_SINGLE_QUOTE : ¬ w_OTHER = w_SINGLE_QUOTE := own_ne O_OTHER O_SINGLE_QUOTE (by decide)
  have n_NEWLINE_MID_NUM : ¬ w_NEWLINE = w_MID_NUM := own_ne O_NEWLINE O_MID_NUM (by decide)
  have n_NEWLINE_MID_NUM_LET : ¬ w_NEWLINE = w_MID_NUM_LET := own_ne O_NEWLINE O_MID_NUM_LET (by decide)
  have n_NEWLINE_SINGLE_QUOTE : ¬ w_NEWLINE = w_SINGLE_QUOTE := own_ne O_NEWLINE O_SINGLE_QUOTE (by decide)
  have n_EXTEND_MID_NUM : ¬ w_EXTEND = w_MID_NUM := own_ne O_EXTEND O_MID_NUM (by decide)
  have n_EXTEND_MID_NUM_LET : ¬ w_EXTEND = w_MID_NUM_LET := own_ne O_EXTEND O_MID_NUM_LET (by decide)
  have n_EXTEND_SINGLE_QUOTE : ¬ w_EXTEND = w_SINGLE_QUOTE := own_ne O_EXTEND O_SINGLE_QUOTE (by decide)
  have n_REGIONAL_INDICATOR_MID_NUM : ¬ w_REGIONAL_INDICATOR = w_MID_NUM := own_ne O_REGIONAL_INDICATOR O_MID_NUM (by decide)
  have n_REGIONAL_INDICATOR_MID_NUM_LET : ¬ w_REGIONAL_INDICATOR = w_MID_NUM_LET := own_ne O_REGIONAL_INDICATOR O_MID_NUM_LET (by decide)
  have n_REGIONAL_INDICATOR_SINGLE_QUOTE : ¬ w_REGIONAL_INDICATOR = w_SINGLE_QUOTE := own_ne O_REGIONAL_INDICATOR O_SINGLE_QUOTE (by decide)
  have n_W_SEG_SPACE_MID_NUM : ¬ w_W_SEG_SPACE = w_MID_NUM := own_ne O_W_SEG_SPACE O_MID_NUM (by decide)
  have n_W_SEG_SPACE_MID_NUM_LET : ¬ w_W_SEG_SPACE = w_MID_NUM_LET := own_ne O_W_SEG_SPACE O_MID_NUM_LET (by decide)
  have n_W_SEG_SPACE_SINGLE_QUOTE : ¬ w_W_SEG_SPACE = w_SINGLE_QUOTE := own_ne O_W_SEG_SPACE O_SINGLE_QUOTE (by decide)
  have n_A_LETTER_MID_NUM : ¬ w_A_LETTER = w_MID_NUM := own_ne O_A_LETTER O_MID_NUM (by decide)
  have n_A_LETTER_MID_NUM_LET : ¬ w_A_LETTER = w_MID_NUM_LET := own_ne O_A_LETTER O_MID_NUM_LET (by decide)
  have n_A_LETTER_SINGLE_QUOTE : ¬ w_A_LETTER = w_SINGLE_QUOTE := own_ne O_A_LETTER O_SINGLE_QUOTE (by decide)
  have n_HEBREW_LETTER_MID_NUM : ¬ w_HEBREW_LETTER = w_MID_NUM := own_ne O_HEBREW_LETTER O_MID_NUM (by decide)
  have n_HEBREW_LETTER_MID_NUM_LET : ¬ w_HEBREW_LETTER = w_MID_NUM_LET := own_ne O_HEBREW_LETTER O_MID_NUM_LET (by decide)
  have n_HEBREW_LETTER_SINGLE_QUOTE : ¬ w_HEBREW_LETTER = w_SINGLE_QUOTE := own_ne O_HEBREW_LETTER O_SINGLE_QUOTE (by decide)
  have n_NUMERIC_MID_NUM : ¬ w_NUMERIC = w_MID_NUM := own_ne O_NUMERIC O_MID_NUM (by decide)
  have n_NUMERIC_MID_NUM_LET : ¬ w_NUMERIC = w_MID_NUM_LET := own_ne O_NUMERIC O_MID_NUM_LET (by decide)
  have n_NUMERIC_SINGLE_QUOTE : ¬ w_NUMERIC = w_SINGLE_QUOTE := own_ne O_NUMERIC O_SINGLE_QUOTE (by decide)
  have n_KATAKANA_MID_NUM : ¬ w_KATAKANA = w_MID_NUM := own_ne O_KATAKANA O_MID_NUM (by decide)
  have n_KATAKANA_MID_NUM_LET : ¬ w_KATAKANA = w_MID_NUM_LET := own_ne O_KATAKANA O_MID_NUM_LET (by decide)
  have n_KATAKANA_SINGLE_QUOTE : ¬ w_KATAKANA = w_SINGLE_QUOTE := own_ne O_KATAKANA O_SINGLE_QUOTE (by decide)
  have n_EXTEND_NUM_LET_MID_NUM : ¬ w_EXTEND_NUM_LET = w_MID_NUM := own_ne O_EXTEND_NUM_LET O_MID_NUM (by decide)
  have n_EXTEND_NUM_LET_MID_NUM_LET : ¬ w_EXTEND_NUM_LET = w_MID_NUM_LET := own_ne O_EXTEND_NUM_LET O_MID_NUM_LET (by decide)
  have n_EXTEND_NUM_LET_SINGLE_QUOTE : ¬ w_EXTEND_NUM_LET = w_SINGLE_QUOTE := own_ne O_EXTEND_NUM_LET O_SINGLE_QUOTE (by decide)
  have n_SOUTHEAST_ASIAN_MID_NUM : ¬ w_SOUTHEAST_ASIAN = w_MID_NUM := own_ne O_SOUTHEAST_ASIAN O_MID_NUM (by decide)
  have n_SOUTHEAST_ASIAN_MID_NUM_LET : ¬ w_SOUTHEAST_ASIAN = w_MID_NUM_LET := own_ne O_SOUTHEAST_ASIAN O_MID_NUM_LET (by decide)
  have n_SOUTHEAST_ASIAN_SINGLE_QUOTE : ¬ w_SOUTHEAST_ASIAN = w_SINGLE_QUOTE := own_ne O_SOUTHEAST_ASIAN O_SINGLE_QUOTE (by decide)
  have n_MID_LETTER_MID_NUM : ¬ w_MID_LETTER = w_MID_NUM := own_ne O_MID_LETTER O_MID_NUM (by decide)
  have n_MID_LETTER_MID_NUM_LET : ¬ w_MID_LETTER = w_MID_NUM_LET := own_ne O_MID_LETTER O_MID_NUM_LET (by decide)
  have n_MID_LETTER_SINGLE_QUOTE : ¬ w_MID_LETTER = w_SINGLE_QUOTE := own_ne O_MID_LETTER O_SINGLE_QUOTE (by decide)
  have n_MID_NUM_MID_NUM_LET : ¬ w_MID_NUM = w_MID_NUM_LET := own_ne O_MID_NUM O_MID_NUM_LET (by decide)
  have n_MID_NUM_SINGLE_QUOTE : ¬ w_MID_NUM = w_SINGLE_QUOTE := own_ne O_MID_NUM O_SINGLE_QUOTE (by decide)
  have n_MID_NUM_LET_MID_NUM : ¬ w_MID_NUM_LET = w_MID_NUM := own_ne O_MID_NUM_LET O_MID_NUM (by decide)
  have n_MID_NUM_LET_SINGLE_QUOTE : ¬ w_MID_NUM_LET = w_SINGLE_QUOTE := own_ne O_MID_NUM_LET O_SINGLE_QUOTE (by decide)
  have n_SINGLE_QUOTE_MID_NUM : ¬ w_SINGLE_QUOTE = w_MID_NUM := own_ne O_SINGLE_QUOTE O_MID_NUM (by decide)
  have n_SINGLE_QUOTE_MID_NUM_LET : ¬ w_SINGLE_QUOTE = w_MID_NUM_LET := own_ne O_SINGLE_QUOTE O_MID_NUM_LET (by decide)
  have n_DOUBLE_QUOTE_MID_NUM : ¬ w_DOUBLE_QUOTE = w_MID_NUM := own_ne O_DOUBLE_QUOTE O_MID_NUM (by decide)
  have n_DOUBLE_QUOTE_MID_NUM_LET : ¬ w_DOUBLE_QUOTE = w_MID_NUM_LET := own_ne O_DOUBLE_QUOTE O_MID_NUM_LET (by decide)
  have n_DOUBLE_QUOTE_SINGLE_QUOTE : ¬ w_DOUBLE_QUOTE = w_SINGLE_QUOTE := own_ne O_DOUBLE_QUOTE O_SINGLE_QUOTE (by decide)
  obtain ⟨T1, h1, k1, X1, e1, E1, A1, st1⟩ := newP X0 hx hZ (hw _ (List.mem_of_getElem? (i := 0) rfl)) e0 (g := (mkF m 7 #[.val (.int p1), .val (.int (p1 &&& (15 : Int32))), .unset, .unset] [(.int (16 : Int32))])) rfl (hb hby at_7) rfl (by decide) (cap := 16) (by decide) (by decide) (by decide) (by decide)
  obtain ⟨b1, g1⟩ : ∃ z, z = h0.size := ⟨_, rfl⟩
  rw [← g1] at A1 st1
  have V_b1 : Arv Z h1 b1 k1 .boolean (16 : Int32) [(.int (0 : Int32)), (.int (0 : Int32)), (.int (0 : Int32)), (.int (0 : Int32)), (.int (0 : Int32)), (.int (0 : Int32)), (.int (0 : Int32)), (.int (0 : Int32)), (.int (0 : Int32)), (.int (0 : Int32)), (.int (0 : Int32)), (.int (0 : Int32)), (.int (0 : Int32)), (.int (0 : Int32)), (.int (0 : Int32)), (.int (0 : Int32))] (.int (0 : Int32)) := (Arv.new A1 (by decide)).pad (pad_rep [] (.int (0 : Int32)) 16)
  have g_b1 : n0 ≤ b1 := Nat.le_trans Z0 (Nat.le_of_eq g1.symm)
  have sz_b1 : h0.size ≤ b1 := Nat.le_trans ((Keep.refl h0 [])).1 (Nat.le_of_eq g1.symm)
  have K1 : Keep h0 h1 [] := ((Keep.refl h0 [])).ext E1
  obtain ⟨cl2, Ar2, q2, S2, N2_, H2, G2⟩ := V_b1
  obtain ⟨T2, h2, X2, e2, W2, st2⟩ := stZ X1 hx hZ e1 Ar2 (j := (0 : Int32)) (inb_of S2 ⟨by decide, by decide⟩) (g := (mkF m 12 #[.val (.int p1), .val (.int (p1 &&& (15 : Int32))), .unset, .unset] [(.int (0 : Int32)), (.int (0 : Int32)), (.ref b1), (.ref b1)])) rfl rfl (hb hby at_12)
  have V2 := Arv.set Ar2 q2 S2 N2_ H2 G2 (fits_nar_bool _) W2 0 rfl (Nat.le_of_ble_eq_true rfl)
  have K2 : Keep h0 h2 [] := (K1).wr W2 (Or.inr sz_b1)
  have N2 := Fr.snoc X2 N0 g_b1
  obtain ⟨cl3, Ar3, q3, S3, N3_, H3, G3⟩ := V2
  obtain ⟨T3, h3, X3, e3, W3, st3⟩ := stZ X2 hx hZ e2 Ar3 (j := (1 : Int32)) (inb_of S3 ⟨by decide, by decide⟩) (g := (mkF m 16 #[.val (.int p1), .val (.int (p1 &&& (15 : Int32))), .unset, .unset] [(.int (0 : Int32)), (.int (1 : Int32)), (.ref b1), (.ref b1)])) rfl rfl (hb hby at_16)
  have V3 := Arv.set Ar3 q3 S3 N3_ H3 G3 (fits_nar_bool _) W3 1 rfl (Nat.le_of_ble_eq_true rfl)
  have K3 : Keep h0 h3 [] := (K2).wr W3 (Or.inr sz_b1)
  have N3 := Fr.snoc X3 N2 g_b1
  obtain ⟨cl4, Ar4, q4, S4, N4_, H4, G4⟩ := V3
  obtain ⟨T4, h4, X4, e4, W4, st4⟩ := stZ X3 hx hZ e3 Ar4 (j := (2 : Int32)) (inb_of S4 ⟨by decide, by decide⟩) (g := (mkF m 20 #[.val (.int p1), .val (.int (p1 &&& (15 : Int32))), .unset, .unset] [(.int (0 : Int32)), (.int (2 : Int32)), (.ref b1), (.ref b1)])) rfl rfl (hb hby at_20)
  have V4 := Arv.set Ar4 q4 S4 N4_ H4 G4 (fits_nar_bool _) W4 2 rfl (Nat.le_of_ble_eq_true rfl)
  have K4 : Keep h0 h4 [] := (K3).wr W4 (Or.inr sz_b1)
  have N4 := Fr.snoc X4 N3 g_b1
  obtain ⟨cl5, Ar5, q5, S5, N5_, H5, G5⟩ := V4
  obtain ⟨T5, h5, X5, e5, W5, st5⟩ := stZ X4 hx hZ e4 Ar5 (j := (3 : Int32)) (inb_of S5 ⟨by decide, by decide⟩) (g := (mkF m 24 #[.val (.int p1), .val (.int (p1 &&& (15 : Int32))), .unset, .unset] [(.int (0 : Int32)), (.int (3 : Int32)), (.ref b1), (.ref b1)])) rfl rfl (hb hby at_24)
  have V5 := Arv.set Ar5 q5 S5 N5_ H5 G5 (fits_nar_bool _) W5 3 rfl (Nat.le_of_ble_eq_true rfl)
  have K5 : Keep h0 h5 [] := (K4).wr W5 (Or.inr sz_b1)
  have N5 := Fr.snoc X5 N4 g_b1
  obtain ⟨cl6, Ar6, q6, S6, N6_, H6, G6⟩ := V5
  obtain ⟨T6, h6, X6, e6, W6, st6⟩ := stZ X5 hx hZ e5 Ar6 (j := (4 : Int32)) (inb_of S6 ⟨by decide, by decide⟩) (g := (mkF m 28 #[.val (.int p1), .val (.int (p1 &&& (15 : Int32))), .unset, .unset] [(.int (0 : Int32)), (.int (4 : Int32)), (.ref b1), (.ref b1)])) rfl rfl (hb hby at_28)
  have V6 := Arv.set Ar6 q6 S6 N6_ H6 G6 (fits_nar_bool _) W6 4 rfl (Nat.le_of_ble_eq_true rfl)
  have K6 : Keep h0 h6 [] := (K5).wr W6 (Or.inr sz_b1)
  have N6 := Fr.snoc X6 N5 g_b1
  obtain ⟨cl7, Ar7, q7, S7, N7_, H7, G7⟩ := V6
  obtain ⟨T7, h7, X7, e7, W7, st7⟩ := stZ X6 hx hZ e6 Ar7 (j := (5 : Int32)) (inb_of S7 ⟨by decide, by decide⟩) (g := (mkF m 32 #[.val (.int p1), .val (.int (p1 &&& (15 : Int32))), .unset, .unset] [(.int (0 : Int32)), (.int (5 : Int32)), (.ref b1), (.ref b1)])) rfl rfl (hb hby at_32)
  have V7 := Arv.set Ar7 q7 S7 N7_ H7 G7 (fits_nar_bool _) W7 5 rfl (Nat.le_of_ble_eq_true rfl)
  have K7 : Keep h0 h7 [] := (K6).wr W7 (Or.inr sz_b1)
  have N7 := Fr.snoc X7 N6 g_b1
  obtain ⟨cl8, Ar8, q8, S8, N8_, H8, G8⟩ := V7
  obtain ⟨T8, h8, X8, e8, W8, st8⟩ := stZ X7 hx hZ e7 Ar8 (j := (6 : Int32)) (inb_of S8 ⟨by decide, by decide⟩) (g := (mkF m 37 #[.val (.int p1), .val (.int (p1 &&& (15 : Int32))), .unset, .unset] [(.int (0 : Int32)), (.int (6 : Int32)), (.ref b1), (.ref b1)])) rfl rfl (hb hby at_37)
  have V8 := Arv.set Ar8 q8 S8 N8_ H8 G8 (fits_nar_bool _) W8 6 rfl (Nat.le_of_ble_eq_true rfl)
  have K8 : Keep h0 h8 [] := (K7).wr W8 (Or.inr sz_b1)
  have N8 := Fr.snoc X8 N7 g_b1
  obtain ⟨cl9, Ar9, q9, S9, N9_, H9, G9⟩ := V8
  obtain ⟨T9, h9, X9, e9, W9, st9⟩ := stZ X8 hx hZ e8 Ar9 (j := (7 : Int32)) (inb_of S9 ⟨by decide, by decide⟩) (g := (mkF m 42 #[.val (.int p1), .val (.int (p1 &&& (15 : Int32))), .unset, .unset] [(.int (0 : Int32)), (.int (7 : Int32)), (.ref b1), (.ref b1)])) rfl rfl (hb hby at_42)
  have V9 := Arv.set Ar9 q9 S9 N9_ H9 G9 (fits_nar_bool _) W9 7 rfl (Nat.le_of_ble_eq_true rfl)
  have K9 : Keep h0 h9 [] := (K8).wr W9 (Or.inr sz_b1)
  have N9 := Fr.snoc X9 N8 g_b1
  obtain ⟨cl10, Ar10, q10, S10, N10_, H10, G10⟩ := V9
  obtain ⟨T10, h10, X10, e10, W10, st10⟩ := stZ X9 hx hZ e9 Ar10 (j := (8 : Int32)) (inb_of S10 ⟨by decide, by decide⟩) (g := (mkF m 47 #[.val (.int p1), .val (.int (p1 &&& (15 : Int32))), .unset, .unset] [(.int (0 : Int32)), (.int (8 : Int32)), (.ref b1), (.ref b1)])) rfl rfl (hb hby at_47)
  have V10 := Arv.set Ar10 q10 S10 N10_ H10 G10 (fits_nar_bool _) W10 8 rfl (Nat.le_of_ble_eq_true rfl)
  have K10 : Keep h0 h10 [] := (K9).wr W10 (Or.inr sz_b1)
  have N10 := Fr.snoc X10 N9 g_b1
  obtain ⟨cl11, Ar11, q11, S11, N11_, H11, G11⟩ := V10
  obtain ⟨T11, h11, X11, e11, W11, st11⟩ := stZ X10 hx hZ e10 Ar11 (j := (9 : Int32)) (inb_of S11 ⟨by decide, by decide⟩) (g := (mkF m 52 #[.val (.int p1), .val (.int (p1 &&& (15 : Int32))), .unset, .unset] [(.int (0 : Int32)), (.int (9 : Int32)), (.ref b1), (.ref b1)])) rfl rfl (hb hby at_52)
  have V11 := Arv.set Ar11 q11 S11 N11_ H11 G11 (fits_nar_bool _) W11 9 rfl (Nat.le_of_ble_eq_true rfl)
  have K11 : Keep h0 h11 [] := (K10).wr W11 (Or.inr sz_b1)
  have N11 := Fr.snoc X11 N10 g_b1
  obtain ⟨cl12, Ar12, q12, S12, N12_, H12, G12⟩ := V11
  obtain ⟨T12, h12, X12, e12, W12, st12⟩ := stZ X11 hx hZ e11 Ar12 (j := (10 : Int32)) (inb_of S12 ⟨by decide, by decide⟩) (g := (mkF m 57 #[.val (.int p1), .val (.int (p1 &&& (15 : Int32))), .unset, .unset] [(.int (0 : Int32)), (.int (10 : Int32)), (.ref b1), (.ref b1)])) rfl rfl (hb hby at_57)
  have V12 := Arv.set Ar12 q12 S12 N12_ H12 G12 (fits_nar_bool _) W12 10 rfl (Nat.le_of_ble_eq_true rfl)
  have K12 : Keep h0 h12 [] := (K11).wr W12 (Or.inr sz_b1)
  have N12 := Fr.snoc X12 N11 g_b1
  obtain ⟨cl13, Ar13, q13, S13, N13_, H13, G13⟩ := V12
  obtain ⟨T13, h13, X13, e13, W13, st13⟩ := stZ X12 hx hZ e12 Ar13 (j := (11 : Int32)) (inb_of S13 ⟨by decide, by decide⟩) (g := (mkF m 62 #[.val (.int p1), .val (.int (p1 &&& (15 : Int32))), .unset, .unset] [(.int (0 : Int32)), (.int (11 : Int32)), (.ref b1), (.ref b1)])) rfl rfl (hb hby at_62)
  have V13 := Arv.set Ar13 q13 S13 N13_ H13 G13 (fits_nar_bool _) W13 11 rfl (Nat.le_of_ble_eq_true rfl)
  have K13 : Keep h0 h13 [] := (K12).wr W13 (Or.inr sz_b1)
  have N13 := Fr.snoc X13 N12 g_b1
  obtain ⟨cl14, Ar14, q14, S14, N14_, H14, G14⟩ := V13
  obtain ⟨T14, h14, X14, e14, W14, st14⟩ := stZ X13 hx hZ e13 Ar14 (j := (12 : Int32)) (inb_of S14 ⟨by decide, by decide⟩) (g := (mkF m 67 #[.val (.int p1), .val (.int (p1 &&& (15 : Int32))), .unset, .unset] [(.int (1 : Int32)), (.int (12 : Int32)), (.ref b1), (.ref b1)])) rfl rfl (hb hby at_67)
  have V14 := Arv.set Ar14 q14 S14 N14_ H14 G14 (fits_nar_bool _) W14 12 rfl (Nat.le_of_ble_eq_true rfl)
  have K14 : Keep h0 h14 [] := (K13).wr W14 (Or.inr sz_b1)
  have N14 := Fr.snoc X14 N13 g_b1
  obtain ⟨cl15, Ar15, q15, S15, N15_, H15, G15⟩ := V14
  obtain ⟨T15, h15, X15, e15, W15, st15⟩ := stZ X14 hx hZ e14 Ar15 (j := (13 : Int32)) (inb_of S15 ⟨by decide, by decide⟩) (g := (mkF m 72 #[.val (.int p1), .val (.int (p1 &&& (15 : Int32))), .unset, .unset] [(.int (1 : Int32)), (.int (13 : Int32)), (.ref b1), (.ref b1)])) rfl rfl (hb hby at_72)
  have V15 := Arv.set Ar15 q15 S15 N15_ H15 G15 (fits_nar_bool _) W15 13 rfl (Nat.le_of_ble_eq_true rfl)
  have K15 : Keep h0 h15 [] := (K14).wr W15 (Or.inr sz_b1)
  have N15 := Fr.snoc X15 N14 g_b1
  obtain ⟨cl16, Ar16, q16, S16, N16_, H16, G16⟩ := V15
  obtain ⟨T16, h16, X16, e16, W16, st16⟩ := stZ X15 hx hZ e15 Ar16 (j := (14 : Int32)) (inb_of S16 ⟨by decide, by decide⟩) (g := (mkF m 77 #[.val (.int p1), .val (.int (p1 &&& (15 : Int32))), .unset, .unset] [(.int (1 : Int32)), (.int (14 : Int32)), (.ref b1), (.ref b1)])) rfl rfl (hb hby at_77)
  have V16 := Arv.set Ar16 q16 S16 N16_ H16 G16 (fits_nar_bool _) W16 14 rfl (Nat.le_of_ble_eq_true rfl)
  have K16 : Keep h0 h16 [] := (K15).wr W16 (Or.inr sz_b1)
  have N16 := Fr.snoc X16 N15 g_b1
  obtain ⟨cl17, Ar17, q17, S17, N17_, H17, G17⟩ := V16
  obtain ⟨T17, h17, X17, e17, W17, st17⟩ := stZ X16 hx hZ e16 Ar17 (j := (15 : Int32)) (inb_of S17 ⟨by decide, by decide⟩) (g := (mkF m 82 #[.val (.int p1), .val (.int (p1 &&& (15 : Int32))), .unset, .unset] [(.int (0 : Int32)), (.int (15 : Int32)), (.ref b1), (.ref b1)])) rfl rfl (hb hby at_82)
  have V17 := Arv.set Ar17 q17 S17 N17_ H17 G17 (fits_nar_bool _) W17 15 rfl (Nat.le_of_ble_eq_true rfl)
  have K17 : Keep h0 h17 [] := (K16).wr W17 (Or.inr sz_b1)
  have N17 := Fr.snoc X17 N16 g_b1
  have pre18 : ∀ t, Steps p.tables e below (T17.setTop (mkF m 84 #[.val (.int p1), .val (.int (p1 &&& (15 : Int32))), .val (.ref b1), .unset] [])) t → Steps p.tables e below (s₁.setTop (entryFrame m #[(.int p1)] maxLocals)) t := fun t k => pre0 t (by
      show Steps p.tables e below (s₁.setTop (mkF m 0 #[.val (.int p1), .unset, .unset, .unset] [])) _
      refine XS.iloadN X0.here hx rfl (hb hby at_0) rfl ?_
      show Steps p.tables e below (s₁.setTop (mkF m 1 #[.val (.int p1), .unset, .unset, .unset] [(.int p1)])) _
      refine XS.bipush X0.here hx rfl (hb hby at_1) ?_
      show Steps p.tables e below (s₁.setTop (mkF m 3 #[.val (.int p1), .unset, .unset, .unset] [(.int (15 : Int32)), (.int p1)])) _
      refine XS.iand X0.here hx rfl (hb hby at_3) rfl ?_
      show Steps p.tables e below (s₁.setTop (mkF m 4 #[.val (.int p1), .unset, .unset, .unset] [(.int (p1 &&& (15 : Int32)))])) _
      refine XS.istoreN X0.here hx rfl (hb hby at_4) rfl (l' := #[.val (.int p1), .val (.int (p1 &&& (15 : Int32))), .unset, .unset]) rfl ?_
      show Steps p.tables e below (s₁.setTop (mkF m 5 #[.val (.int p1), .val (.int (p1 &&& (15 : Int32))), .unset, .unset] [])) _
      refine XS.bipush X0.here hx rfl (hb hby at_5) ?_
      show Steps p.tables e below (s₁.setTop (mkF m 7 #[.val (.int p1), .val (.int (p1 &&& (15 : Int32))), .unset, .unset] [(.int (16 : Int32))])) _
      refine st1 _ ?_
      show Steps p.tables e below (T1.setTop (mkF m 9 #[.val (.int p1), .val (.int (p1 &&& (15 : Int32))), .unset, .unset] [(.ref b1)])) _
      refine XS.dup X1.here hx rfl (hb hby at_9) rfl rfl ?_
      show Steps p.tables e below (T1.setTop (mkF m 10 #[.val (.int p1), .val (.int (p1 &&& (15 : Int32))), .unset, .unset] [(.ref b1), (.ref b1)])) _
      refine XS.iconst X1.here hx rfl (hb hby at_10) ?_
      show Steps p.tables e below (T1.setTop (mkF m 11 #[.val (.int p1), .val (.int (p1 &&& (15 : Int32))), .unset, .unset] [(.int (0 : Int32)), (.ref b1), (.ref b1)])) _
      refine XS.iconst X1.here hx rfl (hb hby at_11) ?_
      show Steps p.tables e below (T1.setTop (mkF m 12 #[.val (.int p1), .val (.int (p1 &&& (15 : Int32))), .unset, .unset] [(.int (0 : Int32)), (.int (0 : Int32)), (.ref b1), (.ref b1)])) _
      refine st2 _ ?_
      show Steps p.tables e below (T2.setTop (mkF m 13 #[.val (.int p1), .val (.int (p1 &&& (15 : Int32))), .unset, .unset] [(.ref b1)])) _
      refine XS.dup X2.here hx rfl (hb hby at_13) rfl rfl ?_
      show Steps p.tables e below (T2.setTop (mkF m 14 #[.val (.int p1), .val (.int (p1 &&& (15 : Int32))), .unset, .unset] [(.ref b1), (.ref b1)])) _
      refine XS.iconst X2.here hx rfl (hb hby at_14) ?_
      show Steps p.tables e below (T2.setTop (mkF m 15 #[.val (.int p1), .val (.int (p1 &&& (15 : Int32))), .unset, .unset] [(.int (1 : Int32)), (.ref b1), (.ref b1)])) _
      refine XS.iconst X2.here hx rfl (hb hby at_15) ?_
      show Steps p.tables e below (T2.setTop (mkF m 16 #[.val (.int p1), .val (.int (p1 &&& (15 : Int32))), .unset, .unset] [(.int (0 : Int32)), (.int (1 : Int32)), (.ref b1), (.ref b1)])) _
      refine st3 _ ?_
      show Steps p.tables e below (T3.setTop (mkF m 17 #[.val (.int p1), .val (.int (p1 &&& (15 : Int32))), .unset, .unset] [(.ref b1)])) _
      refine XS.dup X3.here hx rfl (hb hby at_17) rfl rfl ?_
      show Steps p.tables e below (T3.setTop (mkF m 18 #[.val (.int p1), .val (.int (p1 &&& (15 : Int32))), .unset, .unset] [(.ref b1), (.ref b1)])) _
      refine XS.iconst X3.here hx rfl (hb hby at_18) ?_
      show Steps p.tables e below (T3.setTop (mkF m 19 #[.val (.int p1), .val (.int (p1 &&& (15 : Int32))), .unset, .unset] [(.int (2 : Int32)), (.ref b1), (.ref b1)])) _
      refine XS.iconst X3.here hx rfl (hb hby at_19) ?_
      show Steps p.tables e below (T3.setTop (mkF m 20 #[.val (.int p1), .val (.int (p1 &&& (15 : Int32))), .unset, .unset] [(.int (0 : Int32)), (.int (2 : Int32)), (.ref b1), (.ref b1)])) _
      refine st4 _ ?_
      show Steps p.tables e below (T4.setTop (mkF m 21 #[.val (.int p1), .val (.int (p1 &&& (15 : Int32))), .unset, .unset] [(.ref b1)])) _
      refine XS.dup X4.here hx rfl (hb hby at_21) rfl rfl ?_
      show Steps p.tables e below (T4.setTop (mkF m 22 #[.val (.int p1), .val (.int (p1 &&& (15 : Int32))), .unset, .unset] [(.ref b1), (.ref b1)])) _
      refine XS.iconst X4.here hx rfl (hb hby at_22) ?_
      show Steps p.tables e below (T4.setTop (mkF m 23 #[.val (.int p1), .val (.int (p1 &&& (15 : Int32))), .unset, .unset] [(.int (3 : Int32)), (.ref b1), (.ref b1)])) _
      refine XS.iconst X4.here hx rfl (hb hby at_23) ?_
      show Steps p.tables e below (T4.setTop (mkF m 24 #[.val (.int p1), .val (.int (p1 &&& (15 : Int32))), .unset, .unset] [(.int (0 : Int32)), (.int (3 : Int32)), (.ref b1), (.ref b1)])) _
      refine st5 _ ?_
      show Steps p.tables e below (T5.setTop (mkF m 25 #[.val (.int p1), .val (.int (p1 &&& (15 : Int32))), .unset, .unset] [(.ref b1)])) _
      refine XS.dup X5.here hx rfl (hb hby at_25) rfl rfl ?_
      show Steps p.tables e below (T5.setTop (mkF m 26 #[.val (.int p1), .val (.int (p1 &&& (15 : Int32))), .unset, .unset] [(.ref b1), (.ref b1)])) _
      refine XS.iconst X5.here hx rfl (hb hby at_26) ?_
      show Steps p.tables e below (T5.setTop (mkF m 27 #[.val (.int p1), .val (.int (p1 &&& (15 : Int32))), .unset, .unset] [(.int (4 : Int32)), (.ref b1), (.ref b1)])) _
      refine XS.iconst X5.here hx rfl (hb hby at_27) ?_
      show Steps p.tables e below (T5.setTop (mkF m 28 #[.val (.int p1), .val (.int (p1 &&& (15 : Int32))), .unset, .unset] [(.int (0 : Int32)), (.int (4 : Int32)), (.ref b1), (.ref b1)])) _
      refine st6 _ ?_
      show Steps p.tables e below (T6.setTop (mkF m 29 #[.val (.int p1), .val (.int (p1 &&& (15 : Int32))), .unset, .unset] [(.ref b1)])) _
      refine XS.dup X6.here hx rfl (hb hby at_29) rfl rfl ?_
      show Steps p.tables e below (T6.setTop (mkF m 30 #[.val (.int p1), .val (.int (p1 &&& (15 : Int32))), .unset, .unset] [(.ref b1), (.ref b1)])) _
      refine XS.iconst X6.here hx rfl (hb hby at_30) ?_
      show Steps p.tables e below (T6.setTop (mkF m 31 #[.val (.int p1), .val (.int (p1 &&& (15 : Int32))), .unset, .unset] [(.int (5 : Int32)), (.ref b1), (.ref b1)])) _
      refine XS.iconst X6.here hx rfl (hb hby at_31) ?_
      show Steps p.tables e below (T6.setTop (mkF m 32 #[.val (.int p1), .val (.int (p1 &&& (15 : Int32))), .unset, .unset] [(.int (0 : Int32)), (.int (5 : Int32)), (.ref b1), (.ref b1)])) _
      refine st7 _ ?_
      show Steps p.tables e below (T7.setTop (mkF m 33 #[.val (.int p1), .val (.int (p1 &&& (15 : Int32))), .unset, .unset] [(.ref b1)])) _
      refine XS.dup X7.here hx rfl (hb hby at_33) rfl rfl ?_
      show Steps p.tables e below (T7.setTop (mkF m 34 #[.val (.int p1), .val (.int (p1 &&& (15 : Int32))), .unset, .unset] [(.ref b1), (.ref b1)])) _
      refine XS.bipush X7.here hx rfl (hb hby at_34) ?_
      show Steps p.tables e below (T7.setTop (mkF m 36 #[.val (.int p1), .val (.int (p1 &&& (15 : Int32))), .unset, .unset] [(.int (6 : Int32)), (.ref b1), (.ref b1)])) _
      refine XS.iconst X7.here hx rfl (hb hby at_36) ?_
      show Steps p.tables e below (T7.setTop (mkF m 37 #[.val (.int p1), .val (.int (p1 &&& (15 : Int32))), .unset, .unset] [(.int (0 : Int32)), (.int (6 : Int32)), (.ref b1), (.ref b1)])) _
      refine st8 _ ?_
      show Steps p.tables e below (T8.setTop (mkF m 38 #[.val (.int p1), .val (.int (p1 &&& (15 : Int32))), .unset, .unset] [(.ref b1)])) _
      refine XS.dup X8.here hx rfl (hb hby at_38) rfl rfl ?_
      show Steps p.tables e below (T8.setTop (mkF m 39 #[.val (.int p1), .val (.int (p1 &&& (15 : Int32))), .unset, .unset] [(.ref b1), (.ref b1)])) _
      refine XS.bipush X8.here hx rfl (hb hby at_39) ?_
      show Steps p.tables e below (T8.setTop (mkF m 41 #[.val (.int p1), .val (.int (p1 &&& (15 : Int32))), .unset, .unset] [(.int (7 : Int32)), (.ref b1), (.ref b1)])) _
      refine XS.iconst X8.here hx rfl (hb hby at_41) ?_
      show Steps p.tables e below (T8.setTop (mkF m 42 #[.val (.int p1), .val (.int (p1 &&& (15 : Int32))), .unset, .unset] [(.int (0 : Int32)), (.int (7 : Int32)), (.ref b1), (.ref b1)])) _
      refine st9 _ ?_
      show Steps p.tables e below (T9.setTop (mkF m 43 #[.val (.int p1), .val (.int (p1 &&& (15 : Int32))), .unset, .unset] [(.ref b1)])) _
      refine XS.dup X9.here hx rfl (hb hby at_43) rfl rfl ?_
      show Steps p.tables e below (T9.setTop (mkF m 44 #[.val (.int p1), .val (.int (p1 &&& (15 : Int32))), .unset, .unset] [(.ref b1), (.ref b1)])) _
      refine XS.bipush X9.here hx rfl (hb hby at_44) ?_
      show Steps p.tables e below (T9.setTop (mkF m 46 #[.val (.int p1), .val (.int (p1 &&& (15 : Int32))), .unset, .unset] [(.int (8 : Int32)), (.ref b1), (.ref b1)])) _
      refine XS.iconst X9.here hx rfl (hb hby at_46) ?_
      show Steps p.tables e below (T9.setTop (mkF m 47 #[.val (.int p1), .val (.int (p1 &&& (15 : Int32))), .unset, .unset] [(.int (0 : Int32)), (.int (8 : Int32)), (.ref b1), (.ref b1)])) _
      refine st10 _ ?_
      show Steps p.tables e below (T10.setTop (mkF m 48 #[.val (.int p1), .val (.int (p1 &&& (15 : Int32))), .unset, .unset] [(.ref b1)])) _
      refine XS.dup X10.here hx rfl (hb hby at_48) rfl rfl ?_
      show Steps p.tables e below (T10.setTop (mkF m 49 #[.val (.int p1), .val (.int (p1 &&& (15 : Int32))), .unset, .unset] [(.ref b1), (.ref b1)])) _
      refine XS.bipush X10.here hx rfl (hb hby at_49) ?_
      show Steps p.tables e below (T10.setTop (mkF m 51 #[.val (.int p1), .val (.int (p1 &&& (15 : Int32))), .unset, .unset] [(.int (9 : Int32)), (.ref b1), (.ref b1)])) _
      refine XS.iconst X10.here hx rfl (hb hby at_51) ?_
      show Steps p.tables e below (T10.setTop (mkF m 52 #[.val (.int p1), .val (.int (p1 &&& (15 : Int32))), .unset, .unset] [(.int (0 : Int32)), (.int (9 : Int32)), (.ref b1), (.ref b1)])) _
      refine st11 _ ?_
      show Steps p.tables e below (T11.setTop (mkF m 53 #[.val (.int p1), .val (.int (p1 &&& (15 : Int32))), .unset, .unset] [(.ref b1)])) _
      refine XS.dup X11.here hx rfl (hb hby at_53) rfl rfl ?_
      show Steps p.tables e below (T11.setTop (mkF m 54 #[.val (.int p1), .val (.int (p1 &&& (15 : Int32))), .unset, .unset] [(.ref b1), (.ref b1)])) _
      refine XS.bipush X11.here hx rfl (hb hby at_54) ?_
      show Steps p.tables e below (T11.setTop (mkF m 56 #[.val (.int p1), .val (.int (p1 &&& (15 : Int32))), .unset, .unset] [(.int (10 : Int32)), (.ref b1), (.ref b1)])) _
      refine XS.iconst X11.here hx rfl (hb hby at_56) ?_
      show Steps p.tables e below (T11.setTop (mkF m 57 #[.val (.int p1), .val (.int (p1 &&& (15 : Int32))), .unset, .unset] [(.int (0 : Int32)), (.int (10 : Int32)), (.ref b1), (.ref b1)])) _
      refine st12 _ ?_
      show Steps p.tables e below (T12.setTop (mkF m 58 #[.val (.int p1), .val (.int (p1 &&& (15 : Int32))), .unset, .unset] [(.ref b1)])) _
      refine XS.dup X12.here hx rfl (hb hby at_58) rfl rfl ?_
      show Steps p.tables e below (T12.setTop (mkF m 59 #[.val (.int p1), .val (.int (p1 &&& (15 : Int32))), .unset, .unset] [(.ref b1), (.ref b1)])) _
      refine XS.bipush X12.here hx rfl (hb hby at_59) ?_
      show Steps p.tables e below (T12.setTop (mkF m 61 #[.val (.int p1), .val (.int (p1 &&& (15 : Int32))), .unset, .unset] [(.int (11 : Int32)), (.ref b1), (.ref b1)])) _
      refine XS.iconst X12.here hx rfl (hb hby at_61) ?_
      show Steps p.tables e below (T12.setTop (mkF m 62 #[.val (.int p1), .val (.int (p1 &&& (15 : Int32))), .unset, .unset] [(.int (0 : Int32)), (.int (11 : Int32)), (.ref b1), (.ref b1)])) _
      refine st13 _ ?_
      show Steps p.tables e below (T13.setTop (mkF m 63 #[.val (.int p1), .val (.int (p1 &&& (15 : Int32))), .unset, .unset] [(.ref b1)])) _
      refine XS.dup X13.here hx rfl (hb hby at_63) rfl rfl ?_
      show Steps p.tables e below (T13.setTop (mkF m 64 #[.val (.int p1), .val (.int (p1 &&& (15 : Int32))), .unset, .unset] [(.ref b1), (.ref b1)])) _
      refine XS.bipush X13.here hx rfl (hb hby at_64) ?_
      show Steps p.tables e below (T13.setTop (mkF m 66 #[.val (.int p1), .val (.int (p1 &&& (15 : Int32))), .unset, .unset] [(.int (12 : Int32)), (.ref b1), (.ref b1)])) _
      refine XS.iconst X13.here hx rfl (hb hby at_66) ?_
      show Steps p.tables e below (T13.setTop (mkF m 67 #[.val (.int p1), .val (.int (p1 &&& (15 : Int32))), .unset, .unset] [(.int (1 : Int32)), (.int (12 : Int32)), (.ref b1), (.ref b1)])) _
      refine st14 _ ?_
      show Steps p.tables e below (T14.setTop (mkF m 68 #[.val (.int p1), .val (.int (p1 &&& (15 : Int32))), .unset, .unset] [(.ref b1)])) _
      refine XS.dup X14.here hx rfl (hb hby at_68) rfl rfl ?_
      show Steps p.tables e below (T14.setTop (mkF m 69 #[.val (.int p1), .val (.int (p1 &&& (15 : Int32))), .unset, .unset] [(.ref b1), (.ref b1)])) _
      refine XS.bipush X14.here hx rfl (hb hby at_69) ?_
      show Steps p.tables e below (T14.setTop (mkF m 71 #[.val (.int p1), .val (.int (p1 &&& (15 : Int32))), .unset, .unset] [(.int (13 : Int32)), (.ref b1), (.ref b1)])) _
      refine XS.iconst X14.here hx rfl (hb hby at_71) ?_
      show Steps p.tables e below (T14.setTop (mkF m 72 #[.val (.int p1), .val (.int (p1 &&& (15 : Int32))), .unset, .unset] [(.int (1 : Int32)), (.int (13 : Int32)), (.ref b1), (.ref b1)])) _
      refine st15 _ ?_
      show Steps p.tables e below (T15.setTop (mkF m 73 #[.val (.int p1), .val (.int (p1 &&& (15 : Int32))), .unset, .unset] [(.ref b1)])) _
      refine XS.dup X15.here hx rfl (hb hby at_73) rfl rfl ?_
      show Steps p.tables e below (T15.setTop (mkF m 74 #[.val (.int p1), .val (.int (p1 &&& (15 : Int32))), .unset, .unset] [(.ref b1), (.ref b1)])) _
      refine XS.bipush X15.here hx rfl (hb hby at_74) ?_
      show Steps p.tables e below (T15.setTop (mkF m 76 #[.val (.int p1), .val (.int (p1 &&& (15 : Int32))), .unset, .unset] [(.int (14 : Int32)), (.ref b1), (.ref b1)])) _
      refine XS.iconst X15.here hx rfl (hb hby at_76) ?_
      show Steps p.tables e below (T15.setTop (mkF m 77 #[.val (.int p1), .val (.int (p1 &&& (15 : Int32))), .unset, .unset] [(.int (1 : Int32)), (.int (14 : Int32)), (.ref b1), (.ref b1)])) _
      refine st16 _ ?_
      show Steps p.tables e below (T16.setTop (mkF m 78 #[.val (.int p1), .val (.int (p1 &&& (15 : Int32))), .unset, .unset] [(.ref b1)])) _
      refine XS.dup X16.here hx rfl (hb hby at_78) rfl rfl ?_
      show Steps p.tables e below (T16.setTop (mkF m 79 #[.val (.int p1), .val (.int (p1 &&& (15 : Int32))), .unset, .unset] [(.ref b1), (.ref b1)])) _
      refine XS.bipush X16.here hx rfl (hb hby at_79) ?_
      show Steps p.tables e below (T16.setTop (mkF m 81 #[.val (.int p1), .val (.int (p1 &&& (15 : Int32))), .unset, .unset] [(.int (15 : Int32)), (.ref b1), (.ref b1)])) _
      refine XS.iconst X16.here hx rfl (hb hby at_81) ?_
      show Steps p.tables e below (T16.setTop (mkF m 82 #[.val (.int p1), .val (.int (p1 &&& (15 : Int32))), .unset, .unset] [(.int (0 : Int32)), (.int (15 : Int32)), (.ref b1), (.ref b1)])) _
      refine st17 _ ?_
      show Steps p.tables e below (T17.setTop (mkF m 83 #[.val (.int p1), .val (.int (p1 &&& (15 : Int32))), .unset, .unset] [(.ref b1)])) _
      refine XS.astoreN X17.here hx rfl (hb hby at_83) rfl rfl (l' := #[.val (.int p1), .val (.int (p1 &&& (15 : Int32))), .val (.ref b1), .unset]) rfl ?_
      exact k)
  have Xt : Ext h0 h17 := own_keep_ext K17
  have S1_OTHER := Sta.ext Xt S_OTHER
  have E1_OTHER := Exa.ext Xt E_OTHER
  have S1_NEWLINE := Sta.ext Xt S_NEWLINE
  have E1_NEWLINE := Exa.ext Xt E_NEWLINE
  have S1_EXTEND := Sta.ext Xt S_EXTEND
  have E1_EXTEND := Exa.ext Xt E_EXTEND
  have S1_REGIONAL_INDICATOR := Sta.ext Xt S_REGIONAL_INDICATOR
  have E1_REGIONAL_INDICATOR := Exa.ext Xt E_REGIONAL_INDICATOR
  have S1_W_SEG_SPACE := Sta.ext Xt S_W_SEG_SPACE
  have E1_W_SEG_SPACE := Exa.ext Xt E_W_SEG_SPACE
  have S1_A_LETTER := Sta.ext Xt S_A_LETTER
  have E1_A_LETTER := Exa.ext Xt E_A_LETTER
  have S1_HEBREW_LETTER := Sta.ext Xt S_HEBREW_LETTER
  have E1_HEBREW_LETTER := Exa.ext Xt E_HEBREW_LETTER
  have S1_NUMERIC := Sta.ext Xt S_NUMERIC
  have E1_NUMERIC := Exa.ext Xt E_NUMERIC
  have S1_KATAKANA := Sta.ext Xt S_KATAKANA
  have E1_KATAKANA := Exa.ext Xt E_KATAKANA
  have S1_EXTEND_NUM_LET := Sta.ext Xt S_EXTEND_NUM_LET
  have E1_EXTEND_NUM_LET := Exa.ext Xt E_EXTEND_NUM_LET
  have S1_SOUTHEAST_ASIAN := Sta.ext Xt S_SOUTHEAST_ASIAN
  have E1_SOUTHEAST_ASIAN := Exa.ext Xt E_SOUTHEAST_ASIAN
  have S1_MID_LETTER := Sta.ext Xt S_MID_LETTER
  have E1_MID_LETTER := Exa.ext Xt E_MID_LETTER
  have S1_MID_NUM := Sta.ext Xt S_MID_NUM
  have E1_MID_NUM := Exa.ext Xt E_MID_NUM
  have S1_MID_NUM_LET := Sta.ext Xt S_MID_NUM_LET
  have E1_MID_NUM_LET := Exa.ext Xt E_MID_NUM_LET
  have S1_SINGLE_QUOTE := Sta.ext Xt S_SINGLE_QUOTE
  have E1_SINGLE_QUOTE := Exa.ext Xt E_SINGLE_QUOTE
  have S1_DOUBLE_QUOTE := Sta.ext Xt S_DOUBLE_QUOTE
  have E1_DOUBLE_QUOTE := Exa.ext Xt E_DOUBLE_QUOTE
  have Z1 : n0 ≤ h17.size := Nat.le_trans Z0 Xt.1
  have hbnd := own_mask p1
  rcases own_cases16 hbnd.1 hbnd.2 with hk | hk | hk | hk | hk | hk | hk | hk | hk | hk | hk | hk | hk | hk | hk | hk
  · have pre19 : ∀ t, Steps p.tables e below (T17.setTop (mkF m 84 #[.val (.int p1), .val (.int (0 : Int32)), .val (.ref b1), .unset] [])) t → Steps p.tables e below (s₁.setTop (entryFrame m #[(.int p1)] maxLocals)) t := fun t k => pre18 t (by rw [hk]; exact k)
    obtain ⟨_, _, ⟨T20, L20, k20, n20⟩, -, X20, ⟨Lc20, hQ20, l20, y20, z20⟩, st20⟩ := Jvm.LawKit.callS X17 hx (y := (⟨"com/example/omomi/omomi/WordBreakIsBetweenDigitsPinLaw", "pick", "(I)Lcom/example/omomi/omomi/WordBreak;"⟩ : MethodName)) hown (mvT hZ (hw _ (List.mem_of_getElem? (i := 1) rfl))) (mvT hZ (hw _ (List.mem_of_getElem? (i := 2) rfl))) (mvT hZ (hw _ (List.mem_of_getElem? (i := 3) rfl))) (mvT hZ (hw _ (List.mem_of_getElem? (i := 4) rfl))) (by decide) (backOf (W := 0) (rm1 l Z a0 hw [] (0 : Int32) w_OTHER w_NEWLINE w_EXTEND w_REGIONAL_INDICATOR w_W_SEG_SPACE w_A_LETTER w_HEBREW_LETTER w_NUMERIC w_KATAKANA w_EXTEND_NUM_LET w_SOUTHEAST_ASIAN w_MID_LETTER w_MID_NUM w_MID_NUM_LET w_SINGLE_QUOTE w_DOUBLE_QUOTE w_OTHER h17 n0 Z1 S1_OTHER S1_NEWLINE S1_EXTEND S1_REGIONAL_INDICATOR S1_W_SEG_SPACE S1_A_LETTER S1_HEBREW_LETTER S1_NUMERIC S1_KATAKANA S1_EXTEND_NUM_LET S1_SOUTHEAST_ASIAN S1_MID_LETTER S1_MID_NUM S1_MID_NUM_LET S1_SINGLE_QUOTE S1_DOUBLE_QUOTE rfl) hZ (hw _ (List.mem_of_getElem? (i := 4) rfl)) (hw _ (List.mem_of_getElem? (i := 3) rfl)) (by decide) (by decide)) (g := (mkF m 85 #[.val (.int p1), .val (.int (0 : Int32)), .val (.ref b1), .unset] [(.int (0 : Int32))])) rfl (by rw [hml]; rfl) (argsL := [(.int (0 : Int32))]) (rest := []) (lenOf pd_rm0_0 rfl) rfl (by show 2 * 0 + _ ≤ _; exact Nat.le_of_eq rfl) (hb hby at_85) (fun _ _ => ⟨rfl, e17, (by decide : 1 + 0 ≤ _), (by decide : 16 + 0 ≤ _)⟩)
    dsimp only [Pt.U, Pt.locs, Pt.cells, Pt.slots] at X20 l20 y20 z20 st20 hQ20
    subst l20 y20 z20
    obtain ⟨rfl, N20q, e20⟩ := hQ20
    have N20 := Fr.app N17 N20q
    obtain ⟨cq21, kq21, q21a, q21b, q21c⟩ := isOf hZ e20 E1_OTHER
    obtain ⟨_, _, ⟨T21, L21, k21, n21⟩, -, X21, ⟨Lc21, hQ21, l21, y21, z21⟩, st21⟩ := X20.virtualBack hx (y := (⟨"com/example/omomi/omomi/WordBreak", "isBetweenDigits", "()Z"⟩ : MethodName)) (z := (⟨"com/example/omomi/omomi/WordBreak", "isBetweenDigits", "()Z"⟩ : MethodName)) hown (mvT hZ (hw _ (List.mem_of_getElem? (i := 8) rfl))) (mvT hZ (hw _ (List.mem_of_getElem? (i := 9) rfl))) (notFace_of_selects (args := #[]) (mvT hZ (hw _ (List.mem_of_getElem? (i := 11) rfl)))) (mvT hZ (hw _ (List.mem_of_getElem? (i := 11) rfl))) (mvT hZ (hw _ (List.mem_of_getElem? (i := 10) rfl))) (by decide) (backOf (W := 0) (rm2 l Z a0 hw [] w_OTHER w_MID_NUM w_MID_NUM_LET w_SINGLE_QUOTE (0 : Int32) h17 n0 Z1 S1_MID_NUM S1_MID_NUM_LET S1_SINGLE_QUOTE (by unfold betw; exact (if_neg n_OTHER_MID_NUM).trans ((if_neg n_OTHER_MID_NUM_LET).trans (if_neg n_OTHER_SINGLE_QUOTE)))) hZ (hw _ (List.mem_of_getElem? (i := 12) rfl)) (hw _ (List.mem_of_getElem? (i := 6) rfl)) (by decide) (by decide)) q21a q21c (g := (mkF m 90 #[.val (.int p1), .val (.int (0 : Int32)), .val (.ref b1), .val (.ref w_OTHER)] [(.ref w_OTHER)])) rfl (by rw [hml]; rfl) (Steps.refl _) (argsL := []) (rest := []) (lenOf pd_rm0_1 rfl) rfl (by show 2 * 0 + _ ≤ _; exact Nat.le_of_eq rfl) (hb hby at_90) (fun _ _ => ⟨rfl, e20, (by decide : 1 + 0 ≤ _), (by decide : 16 + 0 ≤ _)⟩)
    dsimp only [Pt.U, Pt.locs, Pt.cells, Pt.slots] at X21 l21 y21 z21 st21 hQ21
    subst l21 y21 z21
    obtain ⟨rfl, N21q, e21⟩ := hQ21
    have N21 := Fr.app N20 N21q
    obtain ⟨cl22, Ar22, q22, S22, N22_, H22, G22⟩ := V17
    obtain ⟨fs, hr, hrun, hended, hW, hsame⟩ := X21.leave (v := some (.int (1 : Int32))) (fun h => by rw [Bd.returns] at h; cases h)
    refine ⟨_, _, pre19 _ ?_, hrun, hended, _, _, rfl, ?_, ⟨_, rfl⟩, hW, hsame.mono (by decide) (by decide)⟩
    · show Steps p.tables e below (T17.setTop (mkF m 84 #[.val (.int p1), .val (.int (0 : Int32)), .val (.ref b1), .unset] [])) _
      refine XS.iloadN X17.here hx rfl (hb hby at_84) rfl ?_
      show Steps p.tables e below (T17.setTop (mkF m 85 #[.val (.int p1), .val (.int (0 : Int32)), .val (.ref b1), .unset] [(.int (0 : Int32))])) _
      refine st20 _ ?_
      show Steps p.tables e below (T20.setTop (mkF m 88 #[.val (.int p1), .val (.int (0 : Int32)), .val (.ref b1), .unset] [(.ref w_OTHER)])) _
      refine XS.astoreN X20.here hx rfl (hb hby at_88) rfl rfl (l' := #[.val (.int p1), .val (.int (0 : Int32)), .val (.ref b1), .val (.ref w_OTHER)]) rfl ?_
      show Steps p.tables e below (T20.setTop (mkF m 89 #[.val (.int p1), .val (.int (0 : Int32)), .val (.ref b1), .val (.ref w_OTHER)] [])) _
      refine XS.aloadN X20.here hx rfl (hb hby at_89) rfl rfl ?_
      show Steps p.tables e below (T20.setTop (mkF m 90 #[.val (.int p1), .val (.int (0 : Int32)), .val (.ref b1), .val (.ref w_OTHER)] [(.ref w_OTHER)])) _
      refine st21.trans ?_
      show Steps p.tables e below (T21.setTop (mkF m 93 #[.val (.int p1), .val (.int (0 : Int32)), .val (.ref b1), .val (.ref w_OTHER)] [(.int (0 : Int32))])) _
      refine XS.aloadN X21.here hx rfl (hb hby at_93) rfl rfl ?_
      show Steps p.tables e below (T21.setTop (mkF m 94 #[.val (.int p1), .val (.int (0 : Int32)), .val (.ref b1), .val (.ref w_OTHER)] [(.ref b1), (.int (0 : Int32))])) _
      refine XS.iloadN X21.here hx rfl (hb hby at_94) rfl ?_
      show Steps p.tables e below (T21.setTop (mkF m 95 #[.val (.int p1), .val (.int (0 : Int32)), .val (.ref b1), .val (.ref w_OTHER)] [(.int (0 : Int32)), (.ref b1), (.int (0 : Int32))])) _
      refine X21.baloadBooleans hx (j := (0 : Int32)) (v := (.int (0 : Int32))) (by rw [e21]; exact Ar22.1) (State.isArrayOf_alike hZ.alike Ar22.2.1) Ar22.2.2 (inb_of S22 ⟨by decide, by decide⟩) (show cl22.slots[((0 : Int32)).toNatClampNeg]? = some (.int (0 : Int32)) from H22 0 (by rw [S22]; decide)) (g := (mkF m 95 #[.val (.int p1), .val (.int (0 : Int32)), .val (.ref b1), .val (.ref w_OTHER)] [(.int (0 : Int32)), (.ref b1), (.int (0 : Int32))])) rfl rfl (hb hby at_95) _ ?_
      show Steps p.tables e below (T21.setTop (mkF m 96 #[.val (.int p1), .val (.int (0 : Int32)), .val (.ref b1), .val (.ref w_OTHER)] [(.int (0 : Int32)), (.int (0 : Int32))])) _
      refine XS.icmpNo X21.here hx rfl (hb hby at_96) rfl (teq (rfl : (0 : Int32) = (0 : Int32))).2 ?_
      show Steps p.tables e below (T21.setTop (mkF m 99 #[.val (.int p1), .val (.int (0 : Int32)), .val (.ref b1), .val (.ref w_OTHER)] [])) _
      refine XS.iconst X21.here hx rfl (hb hby at_99) ?_
      show Steps p.tables e below (T21.setTop (mkF m 100 #[.val (.int p1), .val (.int (0 : Int32)), .val (.ref b1), .val (.ref w_OTHER)] [(.int (1 : Int32))])) _
      refine XS.goto X21.here hx rfl (pc0 := 100) (pc' := 104) rfl (hb hby at_100) (by decide) (by decide) ?_
      show Steps p.tables e below (T21.setTop (mkF m 104 #[.val (.int p1), .val (.int (0 : Int32)), .val (.ref b1), .val (.ref w_OTHER)] [(.int (1 : Int32))])) _
      exact retN X21 hx (t := .boolean) Bd.returns (by simp) (hb hby at_104) hr
    · show Q_rm0 Z p1 w_OTHER w_NEWLINE w_EXTEND w_REGIONAL_INDICATOR w_W_SEG_SPACE w_A_LETTER w_HEBREW_LETTER w_NUMERIC w_KATAKANA w_EXTEND_NUM_LET w_SOUTHEAST_ASIAN w_MID_LETTER w_MID_NUM w_MID_NUM_LET w_SINGLE_QUOTE w_DOUBLE_QUOTE h0 n0 _ T21.heap _
      rw [e21]
      exact ⟨rfl, N21⟩
  · have pre23 : ∀ t, Steps p.tables e below (T17.setTop (mkF m 84 #[.val (.int p1), .val (.int (1 : Int32)), .val (.ref b1), .unset] [])) t → Steps p.tables e below (s₁.setTop (entryFrame m #[(.int p1)] maxLocals)) t := fun t k => pre18 t (by rw [hk]; exact k)
    obtain ⟨_, _, ⟨T24, L24, k24, n24⟩, -, X24, ⟨Lc24, hQ24, l24, y24, z24⟩, st24⟩ := Jvm.LawKit.callS X17 hx (y := (⟨"com/example/omomi/omomi/WordBreakIsBetweenDigitsPinLaw", "pick", "(I)Lcom/example/omomi/omomi/WordBreak;"⟩ : MethodName)) hown (mvT hZ (hw _ (List.mem_of_getElem? (i := 1) rfl))) (mvT hZ (hw _ (List.mem_of_getElem? (i := 2) rfl))) (mvT hZ (hw _ (List.mem_of_getElem? (i := 3) rfl))) (mvT hZ (hw _ (List.mem_of_getElem? (i := 4) rfl))) (by decide) (backOf (W := 0) (rm1 l Z a0 hw [] (1 : Int32) w_OTHER w_NEWLINE w_EXTEND w_REGIONAL_INDICATOR w_W_SEG_SPACE w_A_LETTER w_HEBREW_LETTER w_NUMERIC w_KATAKANA w_EXTEND_NUM_LET w_SOUTHEAST_ASIAN w_MID_LETTER w_MID_NUM w_MID_NUM_LET w_SINGLE_QUOTE w_DOUBLE_QUOTE w_NEWLINE h17 n0 Z1 S1_OTHER S1_NEWLINE S1_EXTEND S1_REGIONAL_INDICATOR S1_W_SEG_SPACE S1_A_LETTER S1_HEBREW_LETTER S1_NUMERIC S1_KATAKANA S1_EXTEND_NUM_LET S1_SOUTHEAST_ASIAN S1_MID_LETTER S1_MID_NUM S1_MID_NUM_LET S1_SINGLE_QUOTE S1_DOUBLE_QUOTE rfl) hZ (hw _ (List.mem_of_getElem? (i := 4) rfl)) (hw _ (List.mem_of_getElem? (i := 3) rfl)) (by decide) (by decide)) (g := (mkF m 85 #[.val (.int p1), .val (.int (1 : Int32)), .val (.ref b1), .unset] [(.int (1 : Int32))])) rfl (by rw [hml]; rfl) (argsL := [(.int (1 : Int32))]) (rest := []) (lenOf pd_rm0_0 rfl) rfl (by show 2 * 0 + _ ≤ _; exact Nat.le_of_eq rfl) (hb hby at_85) (fun _ _ => ⟨rfl, e17, (by decide : 1 + 0 ≤ _), (by decide : 16 + 0 ≤ _)⟩)
    dsimp only [Pt.U, Pt.locs, Pt.cells, Pt.slots] at X24 l24 y24 z24 st24 hQ24
    subst l24 y24 z24
    obtain ⟨rfl, N24q, e24⟩ := hQ24
    have N24 := Fr.app N17 N24q
    obtain ⟨cq25, kq25, q25a, q25b, q25c⟩ := isOf hZ e24 E1_NEWLINE
    obtain ⟨_, _, ⟨T25, L25, k25, n25⟩, -, X25, ⟨Lc25, hQ25, l25, y25, z25⟩, st25⟩ := X24.virtualBack hx (y := (⟨"com/example/omomi/omomi/WordBreak", "isBetweenDigits", "()Z"⟩ : MethodName)) (z := (⟨"com/example/omomi/omomi/WordBreak", "isBetweenDigits", "()Z"⟩ : MethodName)) hown (mvT hZ (hw _ (List.mem_of_getElem? (i := 8) rfl))) (mvT hZ (hw _ (List.mem_of_getElem? (i := 9) rfl))) (notFace_of_selects (args := #[]) (mvT hZ (hw _ (List.mem_of_getElem? (i := 11) rfl)))) (mvT hZ (hw _ (List.mem_of_getElem? (i := 11) rfl))) (mvT hZ (hw _ (List.mem_of_getElem? (i := 10) rfl))) (by decide) (backOf (W := 0) (rm2 l Z a0 hw [] w_NEWLINE w_MID_NUM w_MID_NUM_LET w_SINGLE_QUOTE (0 : Int32) h17 n0 Z1 S1_MID_NUM S1_MID_NUM_LET S1_SINGLE_QUOTE (by unfold betw; exact (if_neg n_NEWLINE_MID_NUM).trans ((if_neg n_NEWLINE_MID_NUM_LET).trans (if_neg n_NEWLINE_SINGLE_QUOTE)))) hZ (hw _ (List.mem_of_getElem? (i := 12) rfl)) (hw _ (List.mem_of_getElem? (i := 6) rfl)) (by decide) (by decide)) q25a q25c (g := (mkF m 90 #[.val (.int p1), .val (.int (1 : Int32)), .val (.ref b1), .val (.ref w_NEWLINE)] [(.ref w_NEWLINE)])) rfl (by rw [hml]; rfl) (Steps.refl _) (argsL := []) (rest := []) (lenOf pd_rm0_1 rfl) rfl (by show 2 * 0 + _ ≤ _; exact Nat.le_of_eq rfl) (hb hby at_90) (fun _ _ => ⟨rfl, e24, (by decide : 1 + 0 ≤ _), (by decide : 16 + 0 ≤ _)⟩)
    dsimp only [Pt.U, Pt.locs, Pt.cells, Pt.slots] at X25 l25 y25 z25 st25 hQ25
    subst l25 y25 z25
    obtain ⟨rfl, N25q, e25⟩ := hQ25
    have N25 := Fr.app N24 N25q
    obtain ⟨cl26, Ar26, q26, S26, N26_, H26, G26⟩ := V17
    obtain ⟨fs, hr, hrun, hended, hW, hsame⟩ := X25.leave (v := some (.int (1 : Int32))) (fun h => by rw [Bd.returns] at h; cases h)
    refine ⟨_, _, pre23 _ ?_, hrun, hended, _, _, rfl, ?_, ⟨_, rfl⟩, hW, hsame.mono (by decide) (by decide)⟩
    · show Steps p.tables e below (T17.setTop (mkF m 84 #[.val (.int p1), .val (.int (1 : Int32)), .val (.ref b1), .unset] [])) _
      refine XS.iloadN X17.here hx rfl (hb hby at_84) rfl ?_
      show Steps p.tables e below (T17.setTop (mkF m 85 #[.val (.int p1), .val (.int (1 : Int32)), .val (.ref b1), .unset] [(.int (1 : Int32))])) _
      refine st24 _ ?_
      show Steps p.tables e below (T24.setTop (mkF m 88 #[.val (.int p1), .val (.int (1 : Int32)), .val (.ref b1), .unset] [(.ref w_NEWLINE)])) _
      refine XS.astoreN X24.here hx rfl (hb hby at_88) rfl rfl (l' := #[.val (.int p1), .val (.int (1 : Int32)), .val (.ref b1), .val (.ref w_NEWLINE)]) rfl ?_
      show Steps p.tables e below (T24.setTop (mkF m 89 #[.val (.int p1), .val (.int (1 : Int32)), .val (.ref b1), .val (.ref w_NEWLINE)] [])) _
      refine XS.aloadN X24.here hx rfl (hb hby at_89) rfl rfl ?_
      show Steps p.tables e below (T24.setTop (mkF m 90 #[.val (.int p1), .val (.int (1 : Int32)), .val (.ref b1), .val (.ref w_NEWLINE)] [(.ref w_NEWLINE)])) _
      refine st25.trans ?_
      show Steps p.tables e below (T25.setTop (mkF m 93 #[.val (.int p1), .val (.int (1 : Int32)), .val (.ref b1), .val (.ref w_NEWLINE)] [(.int (0 : Int32))])) _
      refine XS.aloadN X25.here hx rfl (hb hby at_93) rfl rfl ?_
      show Steps p.tables e below (T25.setTop (mkF m 94 #[.val (.int p1), .val (.int (1 : Int32)), .val (.ref b1), .val (.ref w_NEWLINE)] [(.ref b1), (.int (0 : Int32))])) _
      refine XS.iloadN X25.here hx rfl (hb hby at_94) rfl ?_
      show Steps p.tables e below (T25.setTop (mkF m 95 #[.val (.int p1), .val (.int (1 : Int32)), .val (.ref b1), .val (.ref w_NEWLINE)] [(.int (1 : Int32)), (.ref b1), (.int (0 : Int32))])) _
      refine X25.baloadBooleans hx (j := (1 : Int32)) (v := (.int (0 : Int32))) (by rw [e25]; exact Ar26.1) (State.isArrayOf_alike hZ.alike Ar26.2.1) Ar26.2.2 (inb_of S26 ⟨by decide, by decide⟩) (show cl26.slots[((1 : Int32)).toNatClampNeg]? = some (.int (0 : Int32)) from H26 1 (by rw [S26]; decide)) (g := (mkF m 95 #[.val (.int p1), .val (.int (1 : Int32)), .val (.ref b1), .val (.ref w_NEWLINE)] [(.int (1 : Int32)), (.ref b1), (.int (0 : Int32))])) rfl rfl (hb hby at_95) _ ?_
      show Steps p.tables e below (T25.setTop (mkF m 96 #[.val (.int p1), .val (.int (1 : Int32)), .val (.ref b1), .val (.ref w_NEWLINE)] [(.int (0 : Int32)), (.int (0 : Int32))])) _
      refine XS.icmpNo X25.here hx rfl (hb hby at_96) rfl (teq (rfl : (0 : Int32) = (0 : Int32))).2 ?_
      show Steps p.tables e below (T25.setTop (mkF m 99 #[.val (.int p1), .val (.int (1 : Int32)), .val (.ref b1), .val (.ref w_NEWLINE)] [])) _
      refine XS.iconst X25.here hx rfl (hb hby at_99) ?_
      show Steps p.tables e below (T25.setTop (mkF m 100 #[.val (.int p1), .val (.int (1 : Int32)), .val (.ref b1), .val (.ref w_NEWLINE)] [(.int (1 : Int32))])) _
      refine XS.goto X25.here hx rfl (pc0 := 100) (pc' := 104) rfl (hb hby at_100) (by decide) (by decide) ?_
      show Steps p.tables e below (T25.setTop (mkF m 104 #[.val (.int p1), .val (.int (1 : Int32)), .val (.ref b1), .val (.ref w_NEWLINE)] [(.int (1 : Int32))])) _
      exact retN X25 hx (t := .boolean) Bd.returns (by simp) (hb hby at_104) hr
    · show Q_rm0 Z p1 w_OTHER w_NEWLINE w_EXTEND w_REGIONAL_INDICATOR w_W_SEG_SPACE w_A_LETTER w_HEBREW_LETTER w_NUMERIC w_KATAKANA w_EXTEND_NUM_LET w_SOUTHEAST_ASIAN w_MID_LETTER w_MID_NUM w_MID_NUM_LET w_SINGLE_QUOTE w_DOUBLE_QUOTE h0 n0 _ T25.heap _
      rw [e25]
      exact ⟨rfl, N25⟩
  · have pre27 : ∀ t, Steps p.tables e below (T17.setTop (mkF m 84 #[.val (.int p1), .val (.int (2 : Int32)), .val (.ref b1), .unset] [])) t → Steps p.tables e below (s₁.setTop (entryFrame m #[(.int p1)] maxLocals)) t := fun t k => pre18 t (by rw [hk]; exact k)
    obtain ⟨_, _, ⟨T28, L28, k28, n28⟩, -, X28, ⟨Lc28, hQ28, l28, y28, z28⟩, st28⟩ := Jvm.LawKit.callS X17 hx (y := (⟨"com/example/omomi/omomi/WordBreakIsBetweenDigitsPinLaw", "pick", "(I)Lcom/example/omomi/omomi/WordBreak;"⟩ : MethodName)) hown (mvT hZ (hw _ (List.mem_of_getElem? (i := 1) rfl))) (mvT hZ (hw _ (List.mem_of_getElem? (i := 2) rfl))) (mvT hZ (hw _ (List.mem_of_getElem? (i := 3) rfl))) (mvT hZ (hw _ (List.mem_of_getElem? (i := 4) rfl))) (by decide) (backOf (W := 0) (rm1 l Z a0 hw [] (2 : Int32) w_OTHER w_NEWLINE w_EXTEND w_REGIONAL_INDICATOR w_W_SEG_SPACE w_A_LETTER w_HEBREW_LETTER w_NUMERIC w_KATAKANA w_EXTEND_NUM_LET w_SOUTHEAST_ASIAN w_MID_LETTER w_MID_NUM w_MID_NUM_LET w_SINGLE_QUOTE w_DOUBLE_QUOTE w_EXTEND h17 n0 Z1 S1_OTHER S1_NEWLINE S1_EXTEND S1_REGIONAL_INDICATOR S1_W_SEG_SPACE S1_A_LETTER S1_HEBREW_LETTER S1_NUMERIC S1_KATAKANA S1_EXTEND_NUM_LET S1_SOUTHEAST_ASIAN S1_MID_LETTER S1_MID_NUM S1_MID_NUM_LET S1_SINGLE_QUOTE S1_DOUBLE_QUOTE rfl) hZ (hw _ (List.mem_of_getElem? (i := 4) rfl)) (hw _ (List.mem_of_getElem? (i := 3) rfl)) (by decide) (by decide)) (g := (mkF m 85 #[.val (.int p1), .val (.int (2 : Int32)), .val (.ref b1), .unset] [(.int (2 : Int32))])) rfl (by rw [hml]; rfl) (argsL := [(.int (2 : Int32))]) (rest := []) (lenOf pd_rm0_0 rfl) rfl (by show 2 * 0 + _ ≤ _; exact Nat.le_of_eq rfl) (hb hby at_85) (fun _ _ => ⟨rfl, e17, (by decide : 1 + 0 ≤ _), (by decide : 16 + 0 ≤ _)⟩)
    dsimp only [Pt.U, Pt.locs, Pt.cells, Pt.slots] at X28 l28 y28 z28 st28 hQ28
    subst l28 y28 z28
    obtain ⟨rfl, N28q, e28⟩ := hQ28
    have N28 := Fr.app N17 N28q
    obtain ⟨cq29, kq29, q29a, q29b, q29c⟩ := isOf hZ e28 E1_EXTEND
    obtain ⟨_, _, ⟨T29, L29, k29, n29⟩, -, X29, ⟨Lc29, hQ29, l29, y29, z29⟩, st29⟩ := X28.virtualBack hx (y := (⟨"com/example/omomi/omomi/WordBreak", "isBetweenDigits", "()Z"⟩ : MethodName)) (z := (⟨"com/example/omomi/omomi/WordBreak", "isBetweenDigits", "()Z"⟩ : MethodName)) hown (mvT hZ (hw _ (List.mem_of_getElem? (i := 8) rfl))) (mvT hZ (hw _ (List.mem_of_getElem? (i := 9) rfl))) (notFace_of_selects (args := #[]) (mvT hZ (hw _ (List.mem_of_getElem? (i := 11) rfl)))) (mvT hZ (hw _ (List.mem_of_getElem? (i := 11) rfl))) (mvT hZ (hw _ (List.mem_of_getElem? (i := 10) rfl))) (by decide) (backOf (W := 0) (rm2 l Z a0 hw [] w_EXTEND w_MID_NUM w_MID_NUM_LET w_SINGLE_QUOTE (0 : Int32) h17 n0 Z1 S1_MID_NUM S1_MID_NUM_LET S1_SINGLE_QUOTE (by unfold betw; exact (if_neg n_EXTEND_MID_NUM).trans ((if_neg n_EXTEND_MID_NUM_LET).trans (if_neg n_EXTEND_SINGLE_QUOTE)))) hZ (hw _ (List.mem_of_getElem? (i := 12) rfl)) (hw _ (List.mem_of_getElem? (i := 6) rfl)) (by decide) (by decide)) q29a q29c (g := (mkF m 90 #[.val (.int p1), .val (.int (2 : Int32)), .val (.ref b1), .val (.ref w_EXTEND)] [(.ref w_EXTEND)])) rfl (by rw [hml]; rfl) (Steps.refl _) (argsL := []) (rest := []) (lenOf pd_rm0_1 rfl) rfl (by show 2 * 0 + _ ≤ _; exact Nat.le_of_eq rfl) (hb hby at_90) (fun _ _ => ⟨rfl, e28, (by decide : 1 + 0 ≤ _), (by decide : 16 + 0 ≤ _)⟩)
    dsimp only [Pt.U, Pt.locs, Pt.cells, Pt.slots] at X29 l29 y29 z29 st29 hQ29
    subst l29 y29 z29
    obtain ⟨rfl, N29q, e29⟩ := hQ29
    have N29 := Fr.app N28 N29q
    obtain ⟨cl30, Ar30, q30, S30, N30_, H30, G30⟩ := V17
    obtain ⟨fs, hr, hrun, hended, hW, hsame⟩ := X29.leave (v := some (.int (1 : Int32))) (fun h => by rw [Bd.returns] at h; cases h)
    refine ⟨_, _, pre27 _ ?_, hrun, hended, _, _, rfl, ?_, ⟨_, rfl⟩, hW, hsame.mono (by decide) (by decide)⟩
    · show Steps p.tables e below (T17.setTop (mkF m 84 #[.val (.int p1), .val (.int (2 : Int32)), .val (.ref b1), .unset] [])) _
      refine XS.iloadN X17.here hx rfl (hb hby at_84) rfl ?_
      show Steps p.tables e below (T17.setTop (mkF m 85 #[.val (.int p1), .val (.int (2 : Int32)), .val (.ref b1), .unset] [(.int (2 : Int32))])) _
      refine st28 _ ?_
      show Steps p.tables e below (T28.setTop (mkF m 88 #[.val (.int p1), .val (.int (2 : Int32)), .val (.ref b1), .unset] [(.ref w_EXTEND)])) _
      refine XS.astoreN X28.here hx rfl (hb hby at_88) rfl rfl (l' := #[.val (.int p1), .val (.int (2 : Int32)), .val (.ref b1), .val (.ref w_EXTEND)]) rfl ?_
      show Steps p.tables e below (T28.setTop (mkF m 89 #[.val (.int p1), .val (.int (2 : Int32)), .val (.ref b1), .val (.ref w_EXTEND)] [])) _
      refine XS.aloadN X28.here hx rfl (hb hby at_89) rfl rfl ?_
      show Steps p.tables e below (T28.setTop (mkF m 90 #[.val (.int p1), .val (.int (2 : Int32)), .val (.ref b1), .val (.ref w_EXTEND)] [(.ref w_EXTEND)])) _
      refine st29.trans ?_
      show Steps p.tables e below (T29.setTop (mkF m 93 #[.val (.int p1), .val (.int (2 : Int32)), .val (.ref b1), .val (.ref w_EXTEND)] [(.int (0 : Int32))])) _
      refine XS.aloadN X29.here hx rfl (hb hby at_93) rfl rfl ?_
      show Steps p.tables e below (T29.setTop (mkF m 94 #[.val (.int p1), .val (.int (2 : Int32)), .val (.ref b1), .val (.ref w_EXTEND)] [(.ref b1), (.int (0 : Int32))])) _
      refine XS.iloadN X29.here hx rfl (hb hby at_94) rfl ?_
      show Steps p.tables e below (T29.setTop (mkF m 95 #[.val (.int p1), .val (.int (2 : Int32)), .val (.ref b1), .val (.ref w_EXTEND)] [(.int (2 : Int32)), (.ref b1), (.int (0 : Int32))])) _
      refine X29.baloadBooleans hx (j := (2 : Int32)) (v := (.int (0 : Int32))) (by rw [e29]; exact Ar30.1) (State.isArrayOf_alike hZ.alike Ar30.2.1) Ar30.2.2 (inb_of S30 ⟨by decide, by decide⟩) (show cl30.slots[((2 : Int32)).toNatClampNeg]? = some (.int (0 : Int32)) from H30 2 (by rw [S30]; decide)) (g := (mkF m 95 #[.val (.int p1), .val (.int (2 : Int32)), .val (.ref b1), .val (.ref w_EXTEND)] [(.int (2 : Int32)), (.ref b1), (.int (0 : Int32))])) rfl rfl (hb hby at_95) _ ?_
      show Steps p.tables e below (T29.setTop (mkF m 96 #[.val (.int p1), .val (.int (2 : Int32)), .val (.ref b1), .val (.ref w_EXTEND)] [(.int (0 : Int32)), (.int (0 : Int32))])) _
      refine XS.icmpNo X29.here hx rfl (hb hby at_96) rfl (teq (rfl : (0 : Int32) = (0 : Int32))).2 ?_
      show Steps p.tables e below (T29.setTop (mkF m 99 #[.val (.int p1), .val (.int (2 : Int32)), .val (.ref b1), .val (.ref w_EXTEND)] [])) _
      refine XS.iconst X29.here hx rfl (hb hby at_99) ?_
      show Steps p.tables e below (T29.setTop (mkF m 100 #[.val (.int p1), .val (.int (2 : Int32)), .val (.ref b1), .val (.ref w_EXTEND)] [(.int (1 : Int32))])) _
      refine XS.goto X29.here hx rfl (pc0 := 100) (pc' := 104) rfl (hb hby at_100) (by decide) (by decide) ?_
      show Steps p.tables e below (T29.setTop (mkF m 104 #[.val (.int p1), .val (.int (2 : Int32)), .val (.ref b1), .val (.ref w_EXTEND)] [(.int (1 : Int32))])) _
      exact retN X29 hx (t := .boolean) Bd.returns (by simp) (hb hby at_104) hr
    · show Q_rm0 Z p1 w_OTHER w_NEWLINE w_EXTEND w_REGIONAL_INDICATOR w_W_SEG_SPACE w_A_LETTER w_HEBREW_LETTER w_NUMERIC w_KATAKANA w_EXTEND_NUM_LET w_SOUTHEAST_ASIAN w_MID_LETTER w_MID_NUM w_MID_NUM_LET w_SINGLE_QUOTE w_DOUBLE_QUOTE h0 n0 _ T29.heap _
      rw [e29]
      exact ⟨rfl, N29⟩
  · have pre31 : ∀ t, Steps p.tables e below (T17.setTop (mkF m 84 #[.val (.int p1), .val (.int (3 : Int32)), .val (.ref b1), .unset] [])) t → Steps p.tables e below (s₁.setTop (entryFrame m #[(.int p1)] maxLocals)) t := fun t k => pre18 t (by rw [hk]; exact k)
    obtain ⟨_, _, ⟨T32, L32, k32, n32⟩, -, X32, ⟨Lc32, hQ32, l32, y32, z32⟩, st32⟩ := Jvm.LawKit.callS X17 hx (y := (⟨"com/example/omomi/omomi/WordBreakIsBetweenDigitsPinLaw", "pick", "(I)Lcom/example/omomi/omomi/WordBreak;"⟩ : MethodName)) hown (mvT hZ (hw _ (List.mem_of_getElem? (i := 1) rfl))) (mvT hZ (hw _ (List.mem_of_getElem? (i := 2) rfl))) (mvT hZ (hw _ (List.mem_of_getElem? (i := 3) rfl))) (mvT hZ (hw _ (List.mem_of_getElem? (i := 4) rfl))) (by decide) (backOf (W := 0) (rm1 l Z a0 hw [] (3 : Int32) w_OTHER w_NEWLINE w_EXTEND w_REGIONAL_INDICATOR w_W_SEG_SPACE w_A_LETTER w_HEBREW_LETTER w_NUMERIC w_KATAKANA w_EXTEND_NUM_LET w_SOUTHEAST_ASIAN w_MID_LETTER w_MID_NUM w_MID_NUM_LET w_SINGLE_QUOTE w_DOUBLE_QUOTE w_REGIONAL_INDICATOR h17 n0 Z1 S1_OTHER S1_NEWLINE S1_EXTEND S1_REGIONAL_INDICATOR S1_W_SEG_SPACE S1_A_LETTER S1_HEBREW_LETTER S1_NUMERIC S1_KATAKANA S1_EXTEND_NUM_LET S1_SOUTHEAST_ASIAN S1_MID_LETTER S1_MID_NUM S1_MID_NUM_LET S1_SINGLE_QUOTE S1_DOUBLE_QUOTE rfl) hZ (hw _ (List.mem_of_getElem? (i := 4) rfl)) (hw _ (List.mem_of_getElem? (i := 3) rfl)) (by decide) (by decide)) (g := (mkF m 85 #[.val (.int p1), .val (.int (3 : Int32)), .val (.ref b1), .unset] [(.int (3 : Int32))])) rfl (by rw [hml]; rfl) (argsL := [(.int (3 : Int32))]) (rest := []) (lenOf pd_rm0_0 rfl) rfl (by show 2 * 0 + _ ≤ _; exact Nat.le_of_eq rfl) (hb hby at_85) (fun _ _ => ⟨rfl, e17, (by decide : 1 + 0 ≤ _), (by decide : 16 + 0 ≤ _)⟩)
    dsimp only [Pt.U, Pt.locs, Pt.cells, Pt.slots] at X32 l32 y32 z32 st32 hQ32
    subst l32 y32 z32
    obtain ⟨rfl, N32q, e32⟩ := hQ32
    have N32 := Fr.app N17 N32q
    obtain ⟨cq33, kq33, q33a, q33b, q33c⟩ := isOf hZ e32 E1_REGIONAL_INDICATOR
    obtain ⟨_, _, ⟨T33, L33, k33, n33⟩, -, X33, ⟨Lc33, hQ33, l33, y33, z33⟩, st33⟩ := X32.virtualBack hx (y := (⟨"com/example/omomi/omomi/WordBreak", "isBetweenDigits", "()Z"⟩ : MethodName)) (z := (⟨"com/example/omomi/omomi/WordBreak", "isBetweenDigits", "()Z"⟩ : MethodName)) hown (mvT hZ (hw _ (List.mem_of_getElem? (i := 8) rfl))) (mvT hZ (hw _ (List.mem_of_getElem? (i := 9) rfl))) (notFace_of_selects (args := #[]) (mvT hZ (hw _ (List.mem_of_getElem? (i := 11) rfl)))) (mvT hZ (hw _ (List.mem_of_getElem? (i := 11) rfl))) (mvT hZ (hw _ (List.mem_of_getElem? (i := 10) rfl))) (by decide) (backOf (W := 0) (rm2 l Z a0 hw [] w_REGIONAL_INDICATOR w_MID_NUM w_MID_NUM_LET w_SINGLE_QUOTE (0 : Int32) h17 n0 Z1 S1_MID_NUM S1_MID_NUM_LET S1_SINGLE_QUOTE (by unfold betw; exact (if_neg n_REGIONAL_INDICATOR_MID_NUM).trans ((if_neg n_REGIONAL_INDICATOR_MID_NUM_LET).trans (if_neg n_REGIONAL_INDICATOR_SINGLE_QUOTE)))) hZ (hw _ (List.mem_of_getElem? (i := 12) rfl)) (hw _ (List.mem_of_getElem? (i := 6) rfl)) (by decide) (by decide)) q33a q33c (g := (mkF m 90 #[.val (.int p1), .val (.int (3 : Int32)), .val (.ref b1), .val (.ref w_REGIONAL_INDICATOR)] [(.ref w_REGIONAL_INDICATOR)])) rfl (by rw [hml]; rfl) (Steps.refl _) (argsL := []) (rest := []) (lenOf pd_rm0_1 rfl) rfl (by show 2 * 0 + _ ≤ _; exact Nat.le_of_eq rfl) (hb hby at_90) (fun _ _ => ⟨rfl, e32, (by decide : 1 + 0 ≤ _), (by decide : 16 + 0 ≤ _)⟩)
    dsimp only [Pt.U, Pt.locs, Pt.cells, Pt.slots] at X33 l33 y33 z33 st33 hQ33
    subst l33 y33 z33
    obtain ⟨rfl, N33q, e33⟩ := hQ33
    have N33 := Fr.app N32 N33q
    obtain ⟨cl34, Ar34, q34, S34, N34_, H34, G34⟩ := V17
    obtain ⟨fs, hr, hrun, hended, hW, hsame⟩ := X33.leave (v := some (.int (1 : Int32))) (fun h => by rw [Bd.returns] at h; cases h)
    refine ⟨_, _, pre31 _ ?_, hrun, hended, _, _, rfl, ?_, ⟨_, rfl⟩, hW, hsame.mono (by decide) (by decide)⟩
    · show Steps p.tables e below (T17.setTop (mkF m 84 #[.val (.int p1), .val (.int (3 : Int32)), .val (.ref b1), .unset] [])) _
      refine XS.iloadN X17.here hx rfl (hb hby at_84) rfl ?_
      show Steps p.tables e below (T17.setTop (mkF m 85 #[.val (.int p1), .val (.int (3 : Int32)), .val (.ref b1), .unset] [(.int (3 : Int32))])) _
      refine st32 _ ?_
      show Steps p.tables e below (T32.setTop (mkF m 88 #[.val (.int p1), .val (.int (3 : Int32)), .val (.ref b1), .unset] [(.ref w_REGIONAL_INDICATOR)])) _
      refine XS.astoreN X32.here hx rfl (hb hby at_88) rfl rfl (l' := #[.val (.int p1), .val (.int (3 : Int32)), .val (.ref b1), .val (.ref w_REGIONAL_INDICATOR)]) rfl ?_
      show Steps p.tables e below (T32.setTop (mkF m 89 #[.val (.int p1), .val (.int (3 : Int32)), .val (.ref b1), .val (.ref w_REGIONAL_INDICATOR)] [])) _
      refine XS.aloadN X32.here hx rfl (hb hby at_89) rfl rfl ?_
      show Steps p.tables e below (T32.setTop (mkF m 90 #[.val (.int p1), .val (.int (3 : Int32)), .val (.ref b1), .val (.ref w_REGIONAL_INDICATOR)] [(.ref w_REGIONAL_INDICATOR)])) _
      refine st33.trans ?_
      show Steps p.tables e below (T33.setTop (mkF m 93 #[.val (.int p1), .val (.int (3 : Int32)), .val (.ref b1), .val (.ref w_REGIONAL_INDICATOR)] [(.int (0 : Int32))])) _
      refine XS.aloadN X33.here hx rfl (hb hby at_93) rfl rfl ?_
      show Steps p.tables e below (T33.setTop (mkF m 94 #[.val (.int p1), .val (.int (3 : Int32)), .val (.ref b1), .val (.ref w_REGIONAL_INDICATOR)] [(.ref b1), (.int (0 : Int32))])) _
      refine XS.iloadN X33.here hx rfl (hb hby at_94) rfl ?_
      show Steps p.tables e below (T33.setTop (mkF m 95 #[.val (.int p1), .val (.int (3 : Int32)), .val (.ref b1), .val (.ref w_REGIONAL_INDICATOR)] [(.int (3 : Int32)), (.ref b1), (.int (0 : Int32))])) _
      refine X33.baloadBooleans hx (j := (3 : Int32)) (v := (.int (0 : Int32))) (by rw [e33]; exact Ar34.1) (State.isArrayOf_alike hZ.alike Ar34.2.1) Ar34.2.2 (inb_of S34 ⟨by decide, by decide⟩) (show cl34.slots[((3 : Int32)).toNatClampNeg]? = some (.int (0 : Int32)) from H34 3 (by rw [S34]; decide)) (g := (mkF m 95 #[.val (.int p1), .val (.int (3 : Int32)), .val (.ref b1), .val (.ref w_REGIONAL_INDICATOR)] [(.int (3 : Int32)), (.ref b1), (.int (0 : Int32))])) rfl rfl (hb hby at_95) _ ?_
      show Steps p.tables e below (T33.setTop (mkF m 96 #[.val (.int p1), .val (.int (3 : Int32)), .val (.ref b1), .val (.ref w_REGIONAL_INDICATOR)] [(.int (0 : Int32)), (.int (0 : Int32))])) _
      refine XS.icmpNo X33.here hx rfl (hb hby at_96) rfl (teq (rfl : (0 : Int32) = (0 : Int32))).2 ?_
      show Steps p.tables e below (T33.setTop (mkF m 99 #[.val (.int p1), .val (.int (3 : Int32)), .val (.ref b1), .val (.ref w_REGIONAL_INDICATOR)] [])) _
      refine XS.iconst X33.here hx rfl (hb hby at_99) ?_
      show Steps p.tables e below (T33.setTop (mkF m 100 #[.val (.int p1), .val (.int (3 : Int32)), .val (.ref b1), .val (.ref w_REGIONAL_INDICATOR)] [(.int (1 : Int32))])) _
      refine XS.goto X33.here hx rfl (pc0 := 100) (pc' := 104) rfl (hb hby at_100) (by decide) (by decide) ?_
      show Steps p.tables e below (T33.setTop (mkF m 104 #[.val (.int p1), .val (.int (3 : Int32)), .val (.ref b1), .val (.ref w_REGIONAL_INDICATOR)] [(.int (1 : Int32))])) _
      exact retN X33 hx (t := .boolean) Bd.returns (by simp) (hb hby at_104) hr
    · show Q_rm0 Z p1 w_OTHER w_NEWLINE w_EXTEND w_REGIONAL_INDICATOR w_W_SEG_SPACE w_A_LETTER w_HEBREW_LETTER w_NUMERIC w_KATAKANA w_EXTEND_NUM_LET w_SOUTHEAST_ASIAN w_MID_LETTER w_MID_NUM w_MID_NUM_LET w_SINGLE_QUOTE w_DOUBLE_QUOTE h0 n0 _ T33.heap _
      rw [e33]
      exact ⟨rfl, N33⟩
  · have pre35 : ∀ t, Steps p.tables e below (T17.setTop (mkF m 84 #[.val (.int p1), .val (.int (4 : Int32)), .val (.ref b1), .unset] [])) t → Steps p.tables e below (s₁.setTop (entryFrame m #[(.int p1)] maxLocals)) t := fun t k => pre18 t (by rw [hk]; exact k)
    obtain ⟨_, _, ⟨T36, L36, k36, n36⟩, -, X36, ⟨Lc36, hQ36, l36, y36, z36⟩, st36⟩ := Jvm.LawKit.callS X17 hx (y := (⟨"com/example/omomi/omomi/WordBreakIsBetweenDigitsPinLaw", "pick", "(I)Lcom/example/omomi/omomi/WordBreak;"⟩ : MethodName)) hown (mvT hZ (hw _ (List.mem_of_getElem? (i := 1) rfl))) (mvT hZ (hw _ (List.mem_of_getElem? (i := 2) rfl))) (mvT hZ (hw _ (List.mem_of_getElem? (i := 3) rfl))) (mvT hZ (hw _ (List.mem_of_getElem? (i := 4) rfl))) (by decide) (backOf (W := 0) (rm1 l Z a0 hw [] (4 : Int32) w_OTHER w_NEWLINE w_EXTEND w_REGIONAL_INDICATOR w_W_SEG_SPACE w_A_LETTER w_HEBREW_LETTER w_NUMERIC w_KATAKANA w_EXTEND_NUM_LET w_SOUTHEAST_ASIAN w_MID_LETTER w_MID_NUM w_MID_NUM_LET w_SINGLE_QUOTE w_DOUBLE_QUOTE w_W_SEG_SPACE h17 n0 Z1 S1_OTHER S1_NEWLINE S1_EXTEND S1_REGIONAL_INDICATOR S1_W_SEG_SPACE S1_A_LETTER S1_HEBREW_LETTER S1_NUMERIC S1_KATAKANA S1_EXTEND_NUM_LET S1_SOUTHEAST_ASIAN S1_MID_LETTER S1_MID_NUM S1_MID_NUM_LET S1_SINGLE_QUOTE S1_DOUBLE_QUOTE rfl) hZ (hw _ (List.mem_of_getElem? (i := 4) rfl)) (hw _ (List.mem_of_getElem? (i := 3) rfl)) (by decide) (by decide)) (g := (mkF m 85 #[.val (.int p1), .val (.int (4 : Int32)), .val (.ref b1), .unset] [(.int (4 : Int32))])) rfl (by rw [hml]; rfl) (argsL := [(.int (4 : Int32))]) (rest := []) (lenOf pd_rm0_0 rfl) rfl (by show 2 * 0 + _ ≤ _; exact Nat.le_of_eq rfl) (hb hby at_85) (fun _ _ => ⟨rfl, e17, (by decide : 1 + 0 ≤ _), (by decide : 16 + 0 ≤ _)⟩)
    dsimp only [Pt.U, Pt.locs, Pt.cells, Pt.slots] at X36 l36 y36 z36 st36 hQ36
    subst l36 y36 z36
    obtain ⟨rfl, N36q, e36⟩ := hQ36
    have N36 := Fr.app N17 N36q
    obtain ⟨cq37, kq37, q37a, q37b, q37c⟩ := isOf hZ e36 E1_W_SEG_SPACE
    obtain ⟨_, _, ⟨T37, L37, k37, n37⟩, -, X37, ⟨Lc37, hQ37, l37, y37, z37⟩, st37⟩ := X36.virtualBack hx (y := (⟨"com/example/omomi/omomi/WordBreak", "isBetweenDigits", "()Z"⟩ : MethodName)) (z := (⟨"com/example/omomi/omomi/WordBreak", "isBetweenDigits", "()Z"⟩ : MethodName)) hown (mvT hZ (hw _ (List.mem_of_getElem? (i := 8) rfl))) (mvT hZ (hw _ (List.mem_of_getElem? (i := 9) rfl))) (notFace_of_selects (args := #[]) (mvT hZ (hw _ (List.mem_of_getElem? (i := 11) rfl)))) (mvT hZ (hw _ (List.mem_of_getElem? (i := 11) rfl))) (mvT hZ (hw _ (List.mem_of_getElem? (i := 10) rfl))) (by decide) (backOf (W := 0) (rm2 l Z a0 hw [] w_W_SEG_SPACE w_MID_NUM w_MID_NUM_LET w_SINGLE_QUOTE (0 : Int32) h17 n0 Z1 S1_MID_NUM S1_MID_NUM_LET S1_SINGLE_QUOTE (by unfold betw; exact (if_neg n_W_SEG_SPACE_MID_NUM).trans ((if_neg n_W_SEG_SPACE_MID_NUM_LET).trans (if_neg n_W_SEG_SPACE_SINGLE_QUOTE)))) hZ (hw _ (List.mem_of_getElem? (i := 12) rfl)) (hw _ (List.mem_of_getElem? (i := 6) rfl)) (by decide) (by decide)) q37a q37c (g := (mkF m 90 #[.val (.int p1), .val (.int (4 : Int32)), .val (.ref b1), .val (.ref w_W_SEG_SPACE)] [(.ref w_W_SEG_SPACE)])) rfl (by rw [hml]; rfl) (Steps.refl _) (argsL := []) (rest := []) (lenOf pd_rm0_1 rfl) rfl (by show 2 * 0 + _ ≤ _; exact Nat.le_of_eq rfl) (hb hby at_90) (fun _ _ => ⟨rfl, e36, (by decide : 1 + 0 ≤ _), (by decide : 16 + 0 ≤ _)⟩)
    dsimp only [Pt.U, Pt.locs, Pt.cells, Pt.slots] at X37 l37 y37 z37 st37 hQ37
    subst l37 y37 z37
    obtain ⟨rfl, N37q, e37⟩ := hQ37
    have N37 := Fr.app N36 N37q
    obtain ⟨cl38, Ar38, q38, S38, N38_, H38, G38⟩ := V17
    obtain ⟨fs, hr, hrun, hended, hW, hsame⟩ := X37.leave (v := some (.int (1 : Int32))) (fun h => by rw [Bd.returns] at h; cases h)
    refine ⟨_, _, pre35 _ ?_, hrun, hended, _, _, rfl, ?_, ⟨_, rfl⟩, hW, hsame.mono (by decide) (by decide)⟩
    · show Steps p.tables e below (T17.setTop (mkF m 84 #[.val (.int p1), .val (.int (4 : Int32)), .val (.ref b1), .unset] [])) _
      refine XS.iloadN X17.here hx rfl (hb hby at_84) rfl ?_
      show Steps p.tables e below (T17.setTop (mkF m 85 #[.val (.int p1), .val (.int (4 : Int32)), .val (.ref b1), .unset] [(.int (4 : Int32))])) _
      refine st36 _ ?_
      show Steps p.tables e below (T36.setTop (mkF m 88 #[.val (.int p1), .val (.int (4 : Int32)), .val (.ref b1), .unset] [(.ref w_W_SEG_SPACE)])) _
      refine XS.astoreN X36.here hx rfl (hb hby at_88) rfl rfl (l' := #[.val (.int p1), .val (.int (4 : Int32)), .val (.ref b1), .val (.ref w_W_SEG_SPACE)]) rfl ?_
      show Steps p.tables e below (T36.setTop (mkF m 89 #[.val (.int p1), .val (.int (4 : Int32)), .val (.ref b1), .val (.ref w_W_SEG_SPACE)] [])) _
      refine XS.aloadN X36.here hx rfl (hb hby at_89) rfl rfl ?_
      show Steps p.tables e below (T36.setTop (mkF m 90 #[.val (.int p1), .val (.int (4 : Int32)), .val (.ref b1), .val (.ref w_W_SEG_SPACE)] [(.ref w_W_SEG_SPACE)])) _
      refine st37.trans ?_
      show Steps p.tables e below (T37.setTop (mkF m 93 #[.val (.int p1), .val (.int (4 : Int32)), .val (.ref b1), .val (.ref w_W_SEG_SPACE)] [(.int (0 : Int32))])) _
      refine XS.aloadN X37.here hx rfl (hb hby at_93) rfl rfl ?_
      show Steps p.tables e below (T37.setTop (mkF m 94 #[.val (.int p1), .val (.int (4 : Int32)), .val (.ref b1), .val (.ref w_W_SEG_SPACE)] [(.ref b1), (.int (0 : Int32))])) _
      refine XS.iloadN X37.here hx rfl (hb hby at_94) rfl ?_
      show Steps p.tables e below (T37.setTop (mkF m 95 #[.val (.int p1), .val (.int (4 : Int32)), .val (.ref b1), .val (.ref w_W_SEG_SPACE)] [(.int (4 : Int32)), (.ref b1), (.int (0 : Int32))])) _
      refine X37.baloadBooleans hx (j := (4 : Int32)) (v := (.int (0 : Int32))) (by rw [e37]; exact Ar38.1) (State.isArrayOf_alike hZ.alike Ar38.2.1) Ar38.2.2 (inb_of S38 ⟨by decide, by decide⟩) (show cl38.slots[((4 : Int32)).toNatClampNeg]? = some (.int (0 : Int32)) from H38 4 (by rw [S38]; decide)) (g := (mkF m 95 #[.val (.int p1), .val (.int (4 : Int32)), .val (.ref b1), .val (.ref w_W_SEG_SPACE)] [(.int (4 : Int32)), (.ref b1), (.int (0 : Int32))])) rfl rfl (hb hby at_95) _ ?_
      show Steps p.tables e below (T37.setTop (mkF m 96 #[.val (.int p1), .val (.int (4 : Int32)), .val (.ref b1), .val (.ref w_W_SEG_SPACE)] [(.int (0 : Int32)), (.int (0 : Int32))])) _
      refine XS.icmpNo X37.here hx rfl (hb hby at_96) rfl (teq (rfl : (0 : Int32) = (0 : Int32))).2 ?_
      show Steps p.tables e below (T37.setTop (mkF m 99 #[.val (.int p1), .val (.int (4 : Int32)), .val (.ref b1), .val (.ref w_W_SEG_SPACE)] [])) _
      refine XS.iconst X37.here hx rfl (hb hby at_99) ?_
      show Steps p.tables e below (T37.setTop (mkF m 100 #[.val (.int p1), .val (.int (4 : Int32)), .val (.ref b1), .val (.ref w_W_SEG_SPACE)] [(.int (1 : Int32))])) _
      refine XS.goto X37.here hx rfl (pc0 := 100) (pc' := 104) rfl (hb hby at_100) (by decide) (by decide) ?_
      show Steps p.tables e below (T37.setTop (mkF m 104 #[.val (.int p1), .val (.int (4 : Int32)), .val (.ref b1), .val (.ref w_W_SEG_SPACE)] [(.int (1 : Int32))])) _
      exact retN X37 hx (t := .boolean) Bd.returns (by simp) (hb hby at_104) hr
    · show Q_rm0 Z p1 w_OTHER w_NEWLINE w_EXTEND w_REGIONAL_INDICATOR w_W_SEG_SPACE w_A_LETTER w_HEBREW_LETTER w_NUMERIC w_KATAKANA w_EXTEND_NUM_LET w_SOUTHEAST_ASIAN w_MID_LETTER w_MID_NUM w_MID_NUM_LET w_SINGLE_QUOTE w_DOUBLE_QUOTE h0 n0 _ T37.heap _
      rw [e37]
      exact ⟨rfl, N37⟩
  · have pre39 : ∀ t, Steps p.tables e below (T17.setTop (mkF m 84 #[.val (.int p1), .val (.int (5 : Int32)), .val (.ref b1), .unset] [])) t → Steps p.tables e below (s₁.setTop (entryFrame m #[(.int p1)] maxLocals)) t := fun t k => pre18 t (by rw [hk]; exact k)
    obtain ⟨_, _, ⟨T40, L40, k40, n40⟩, -, X40, ⟨Lc40, hQ40, l40, y40, z40⟩, st40⟩ := Jvm.LawKit.callS X17 hx (y := (⟨"com/example/omomi/omomi/WordBreakIsBetweenDigitsPinLaw", "pick", "(I)Lcom/example/omomi/omomi/WordBreak;"⟩ : MethodName)) hown (mvT hZ (hw _ (List.mem_of_getElem? (i := 1) rfl))) (mvT hZ (hw _ (List.mem_of_getElem? (i := 2) rfl))) (mvT hZ (hw _ (List.mem_of_getElem? (i := 3) rfl))) (mvT hZ (hw _ (List.mem_of_getElem? (i := 4) rfl))) (by decide) (backOf (W := 0) (rm1 l Z a0 hw [] (5 : Int32) w_OTHER w_NEWLINE w_EXTEND w_REGIONAL_INDICATOR w_W_SEG_SPACE w_A_LETTER w_HEBREW_LETTER w_NUMERIC w_KATAKANA w_EXTEND_NUM_LET w_SOUTHEAST_ASIAN w_MID_LETTER w_MID_NUM w_MID_NUM_LET w_SINGLE_QUOTE w_DOUBLE_QUOTE w_A_LETTER h17 n0 Z1 S1_OTHER S1_NEWLINE S1_EXTEND S1_REGIONAL_INDICATOR S1_W_SEG_SPACE S1_A_LETTER S1_HEBREW_LETTER S1_NUMERIC S1_KATAKANA S1_EXTEND_NUM_LET S1_SOUTHEAST_ASIAN S1_MID_LETTER S1_MID_NUM S1_MID_NUM_LET S1_SINGLE_QUOTE S1_DOUBLE_QUOTE rfl) hZ (hw _ (List.mem_of_getElem? (i := 4) rfl)) (hw _ (List.mem_of_getElem? (i := 3) rfl)) (by decide) (by decide)) (g := (mkF m 85 #[.val (.int p1), .val (.int (5 : Int32)), .val (.ref b1), .unset] [(.int (5 : Int32))])) rfl (by rw [hml]; rfl) (argsL := [(.int (5 : Int32))]) (rest := []) (lenOf pd_rm0_0 rfl) rfl (by show 2 * 0 + _ ≤ _; exact Nat.le_of_eq rfl) (hb hby at_85) (fun _ _ => ⟨rfl, e17, (by decide : 1 + 0 ≤ _), (by decide : 16 + 0 ≤ _)⟩)
    dsimp only [Pt.U, Pt.locs, Pt.cells, Pt.slots] at X40 l40 y40 z40 st40 hQ40
    subst l40 y40 z40
    obtain ⟨rfl, N40q, e40⟩ := hQ40
    have N40 := Fr.app N17 N40q
    obtain ⟨cq41, kq41, q41a, q41b, q41c⟩ := isOf hZ e40 E1_A_LETTER
    obtain ⟨_, _, ⟨T41, L41, k41, n41⟩, -, X41, ⟨Lc41, hQ41, l41, y41, z41⟩, st41⟩ := X40.virtualBack hx (y := (⟨"com/example/omomi/omomi/WordBreak", "isBetweenDigits", "()Z"⟩ : MethodName)) (z := (⟨"com/example/omomi/omomi/WordBreak", "isBetweenDigits", "()Z"⟩ : MethodName)) hown (mvT hZ (hw _ (List.mem_of_getElem? (i := 8) rfl))) (mvT hZ (hw _ (List.mem_of_getElem? (i := 9) rfl))) (notFace_of_selects (args := #[]) (mvT hZ (hw _ (List.mem_of_getElem? (i := 11) rfl)))) (mvT hZ (hw _ (List.mem_of_getElem? (i := 11) rfl))) (mvT hZ (hw _ (List.mem_of_getElem? (i := 10) rfl))) (by decide) (backOf (W := 0) (rm2 l Z a0 hw [] w_A_LETTER w_MID_NUM w_MID_NUM_LET w_SINGLE_QUOTE (0 : Int32) h17 n0 Z1 S1_MID_NUM S1_MID_NUM_LET S1_SINGLE_QUOTE (by unfold betw; exact (if_neg n_A_LETTER_MID_NUM).trans ((if_neg n_A_LETTER_MID_NUM_LET).trans (if_neg n_A_LETTER_SINGLE_QUOTE)))) hZ (hw _ (List.mem_of_getElem? (i := 12) rfl)) (hw _ (List.mem_of_getElem? (i := 6) rfl)) (by decide) (by decide)) q41a q41c (g := (mkF m 90 #[.val (.int p1), .val (.int (5 : Int32)), .val (.ref b1), .val (.ref w_A_LETTER)] [(.ref w_A_LETTER)])) rfl (by rw [hml]; rfl) (Steps.refl _) (argsL := []) (rest := []) (lenOf pd_rm0_1 rfl) rfl (by show 2 * 0 + _ ≤ _; exact Nat.le_of_eq rfl) (hb hby at_90) (fun _ _ => ⟨rfl, e40, (by decide : 1 + 0 ≤ _), (by decide : 16 + 0 ≤ _)⟩)
    dsimp only [Pt.U, Pt.locs, Pt.cells, Pt.slots] at X41 l41 y41 z41 st41 hQ41
    subst l41 y41 z41
    obtain ⟨rfl, N41q, e41⟩ := hQ41
    have N41 := Fr.app N40 N41q
    obtain ⟨cl42, Ar42, q42, S42, N42_, H42, G42⟩ := V17
    obtain ⟨fs, hr, hrun, hended, hW, hsame⟩ := X41.leave (v := some (.int (1 : Int32))) (fun h => by rw [Bd.returns] at h; cases h)
    refine ⟨_, _, pre39 _ ?_, hrun, hended, _, _, rfl, ?_, ⟨_, rfl⟩, hW, hsame.mono (by decide) (by decide)⟩
    · show Steps p.tables e below (T17.setTop (mkF m 84 #[.val (.int p1), .val (.int (5 : Int32)), .val (.ref b1), .unset] [])) _
      refine XS.iloadN X17.here hx rfl (hb hby at_84) rfl ?_
      show Steps p.tables e below (T17.setTop (mkF m 85 #[.val (.int p1), .val (.int (5 : Int32)), .val (.ref b1), .unset] [(.int (5 : Int32))])) _
      refine st40 _ ?_
      show Steps p.tables e below (T40.setTop (mkF m 88 #[.val (.int p1), .val (.int (5 : Int32)), .val (.ref b1), .unset] [(.ref w_A_LETTER)])) _
      refine XS.astoreN X40.here hx rfl (hb hby at_88) rfl rfl (l' := #[.val (.int p1), .val (.int (5 : Int32)), .val (.ref b1), .val (.ref w_A_LETTER)]) rfl ?_
      show Steps p.tables e below (T40.setTop (mkF m 89 #[.val (.int p1), .val (.int (5 : Int32)), .val (.ref b1), .val (.ref w_A_LETTER)] [])) _
      refine XS.aloadN X40.here hx rfl (hb hby at_89) rfl rfl ?_
      show Steps p.tables e below (T40.setTop (mkF m 90 #[.val (.int p1), .val (.int (5 : Int32)), .val (.ref b1), .val (.ref w_A_LETTER)] [(.ref w_A_LETTER)])) _
      refine st41.trans ?_
      show Steps p.tables e below (T41.setTop (mkF m 93 #[.val (.int p1), .val (.int (5 : Int32)), .val (.ref b1), .val (.ref w_A_LETTER)] [(.int (0 : Int32))])) _
      refine XS.aloadN X41.here hx rfl (hb hby at_93) rfl rfl ?_
      show Steps p.tables e below (T41.setTop (mkF m 94 #[.val (.int p1), .val (.int (5 : Int32)), .val (.ref b1), .val (.ref w_A_LETTER)] [(.ref b1), (.int (0 : Int32))])) _
      refine XS.iloadN X41.here hx rfl (hb hby at_94) rfl ?_
      show Steps p.tables e below (T41.setTop (mkF m 95 #[.val (.int p1), .val (.int (5 : Int32)), .val (.ref b1), .val (.ref w_A_LETTER)] [(.int (5 : Int32)), (.ref b1), (.int (0 : Int32))])) _
      refine X41.baloadBooleans hx (j := (5 : Int32)) (v := (.int (0 : Int32))) (by rw [e41]; exact Ar42.1) (State.isArrayOf_alike hZ.alike Ar42.2.1) Ar42.2.2 (inb_of S42 ⟨by decide, by decide⟩) (show cl42.slots[((5 : Int32)).toNatClampNeg]? = some (.int (0 : Int32)) from H42 5 (by rw [S42]; decide)) (g := (mkF m 95 #[.val (.int p1), .val (.int (5 : Int32)), .val (.ref b1), .val (.ref w_A_LETTER)] [(.int (5 : Int32)), (.ref b1), (.int (0 : Int32))])) rfl rfl (hb hby at_95) _ ?_
      show Steps p.tables e below (T41.setTop (mkF m 96 #[.val (.int p1), .val (.int (5 : Int32)), .val (.ref b1), .val (.ref w_A_LETTER)] [(.int (0 : Int32)), (.int (0 : Int32))])) _
      refine XS.icmpNo X41.here hx rfl (hb hby at_96) rfl (teq (rfl : (0 : Int32) = (0 : Int32))).2 ?_
      show Steps p.tables e below (T41.setTop (mkF m 99 #[.val (.int p1), .val (.int (5 : Int32)), .val (.ref b1), .val (.ref w_A_LETTER)] [])) _
      refine XS.iconst X41.here hx rfl (hb hby at_99) ?_
      show Steps p.tables e below (T41.setTop (mkF m 100 #[.val (.int p1), .val (.int (5 : Int32)), .val (.ref b1), .val (.ref w_A_LETTER)] [(.int (1 : Int32))])) _
      refine XS.goto X41.here hx rfl (pc0 := 100) (pc' := 104) rfl (hb hby at_100) (by decide) (by decide) ?_
      show Steps p.tables e below (T41.setTop (mkF m 104 #[.val (.int p1), .val (.int (5 : Int32)), .val (.ref b1), .val (.ref w_A_LETTER)] [(.int (1 : Int32))])) _
      exact retN X41 hx (t := .boolean) Bd.returns (by simp) (hb hby at_104) hr
    · show Q_rm0 Z p1 w_OTHER w_NEWLINE w_EXTEND w_REGIONAL_INDICATOR w_W_SEG_SPACE w_A_LETTER w_HEBREW_LETTER w_NUMERIC w_KATAKANA w_EXTEND_NUM_LET w_SOUTHEAST_ASIAN w_MID_LETTER w_MID_NUM w_MID_NUM_LET w_SINGLE_QUOTE w_DOUBLE_QUOTE h0 n0 _ T41.heap _
      rw [e41]
      exact ⟨rfl, N41⟩
  · have pre43 : ∀ t, Steps p.tables e below (T17.setTop (mkF m 84 #[.val (.int p1), .val (.int (6 : Int32)), .val (.ref b1), .unset] [])) t → Steps p.tables e below (s₁.setTop (entryFrame m #[(.int p1)] maxLocals)) t := fun t k => pre18 t (by rw [hk]; exact k)
    obtain ⟨_, _, ⟨T44, L44, k44, n44⟩, -, X44, ⟨Lc44, hQ44, l44, y44, z44⟩, st44⟩ := Jvm.LawKit.callS X17 hx (y := (⟨"com/example/omomi/omomi/WordBreakIsBetweenDigitsPinLaw", "pick", "(I)Lcom/example/omomi/omomi/WordBreak;"⟩ : MethodName)) hown (mvT hZ (hw _ (List.mem_of_getElem? (i := 1) rfl))) (mvT hZ (hw _ (List.mem_of_getElem? (i := 2) rfl))) (mvT hZ (hw _ (List.mem_of_getElem? (i := 3) rfl))) (mvT hZ (hw _ (List.mem_of_getElem? (i := 4) rfl))) (by decide) (backOf (W := 0) (rm1 l Z a0 hw [] (6 : Int32) w_OTHER w_NEWLINE w_EXTEND w_REGIONAL_INDICATOR w_W_SEG_SPACE w_A_LETTER w_HEBREW_LETTER w_NUMERIC w_KATAKANA w_EXTEND_NUM_LET w_SOUTHEAST_ASIAN w_MID_LETTER w_MID_NUM w_MID_NUM_LET w_SINGLE_QUOTE w_DOUBLE_QUOTE w_HEBREW_LETTER h17 n0 Z1 S1_OTHER S1_NEWLINE S1_EXTEND S1_REGIONAL_INDICATOR S1_W_SEG_SPACE S1_A_LETTER S1_HEBREW_LETTER S1_NUMERIC S1_KATAKANA S1_EXTEND_NUM_LET S1_SOUTHEAST_ASIAN S1_MID_LETTER S1_MID_NUM S1_MID_NUM_LET S1_SINGLE_QUOTE S1_DOUBLE_QUOTE rfl) hZ (hw _ (List.mem_of_getElem? (i := 4) rfl)) (hw _ (List.mem_of_getElem? (i := 3) rfl)) (by decide) (by decide)) (g := (mkF m 85 #[.val (.int p1), .val (.int (6 : Int32)), .val (.ref b1), .unset] [(.int (6 : Int32))])) rfl (by rw [hml]; rfl) (argsL := [(.int (6 : Int32))]) (rest := []) (lenOf pd_rm0_0 rfl) rfl (by show 2 * 0 + _ ≤ _; exact Nat.le_of_eq rfl) (hb hby at_85) (fun _ _ => ⟨rfl, e17, (by decide : 1 + 0 ≤ _), (by decide : 16 + 0 ≤ _)⟩)
    dsimp only [Pt.U, Pt.locs, Pt.cells, Pt.slots] at X44 l44 y44 z44 st44 hQ44
    subst l44 y44 z44
    obtain ⟨rfl, N44q, e44⟩ := hQ44
    have N44 := Fr.app N17 N44q
    obtain ⟨cq45, kq45, q45a, q45b, q45c⟩ := isOf hZ e44 E1_HEBREW_LETTER
    obtain ⟨_, _, ⟨T45, L45, k45, n45⟩, -, X45, ⟨Lc45, hQ45, l45, y45, z45⟩, st45⟩ := X44.virtualBack hx (y := (⟨"com/example/omomi/omomi/WordBreak", "isBetweenDigits", "()Z"⟩ : MethodName)) (z := (⟨"com/example/omomi/omomi/WordBreak", "isBetweenDigits", "()Z"⟩ : MethodName)) hown (mvT hZ (hw _ (List.mem_of_getElem? (i := 8) rfl))) (mvT hZ (hw _ (List.mem_of_getElem? (i := 9) rfl))) (notFace_of_selects (args := #[]) (mvT hZ (hw _ (List.mem_of_getElem? (i := 11) rfl)))) (mvT hZ (hw _ (List.mem_of_getElem? (i := 11) rfl))) (mvT hZ (hw _ (List.mem_of_getElem? (i := 10) rfl))) (by decide) (backOf (W := 0) (rm2 l Z a0 hw [] w_HEBREW_LETTER w_MID_NUM w_MID_NUM_LET w_SINGLE_QUOTE (0 : Int32) h17 n0 Z1 S1_MID_NUM S1_MID_NUM_LET S1_SINGLE_QUOTE (by unfold betw; exact (if_neg n_HEBREW_LETTER_MID_NUM).trans ((if_neg n_HEBREW_LETTER_MID_NUM_LET).trans (if_neg n_HEBREW_LETTER_SINGLE_QUOTE)))) hZ (hw _ (List.mem_of_getElem? (i := 12) rfl)) (hw _ (List.mem_of_getElem? (i := 6) rfl)) (by decide) (by decide)) q45a q45c (g := (mkF m 90 #[.val (.int p1), .val (.int (6 : Int32)), .val (.ref b1), .val (.ref w_HEBREW_LETTER)] [(.ref w_HEBREW_LETTER)])) rfl (by rw [hml]; rfl) (Steps.refl _) (argsL := []) (rest := []) (lenOf pd_rm0_1 rfl) rfl (by show 2 * 0 + _ ≤ _; exact Nat.le_of_eq rfl) (hb hby at_90) (fun _ _ => ⟨rfl, e44, (by decide : 1 + 0 ≤ _), (by decide : 16 + 0 ≤ _)⟩)
    dsimp only [Pt.U, Pt.locs, Pt.cells, Pt.slots] at X45 l45 y45 z45 st45 hQ45
    subst l45 y45 z45
    obtain ⟨rfl, N45q, e45⟩ := hQ45
    have N45 := Fr.app N44 N45q
    obtain ⟨cl46, Ar46, q46, S46, N46_, H46, G46⟩ := V17
    obtain ⟨fs, hr, hrun, hended, hW, hsame⟩ := X45.leave (v := some (.int (1 : Int32))) (fun h => by rw [Bd.returns] at h; cases h)
    refine ⟨_, _, pre43 _ ?_, hrun, hended, _, _, rfl, ?_, ⟨_, rfl⟩, hW, hsame.mono (by decide) (by decide)⟩
    · show Steps p.tables e below (T17.setTop (mkF m 84 #[.val (.int p1), .val (.int (6 : Int32)), .val (.ref b1), .unset] [])) _
      refine XS.iloadN X17.here hx rfl (hb hby at_84) rfl ?_
      show Steps p.tables e below (T17.setTop (mkF m 85 #[.val (.int p1), .val (.int (6 : Int32)), .val (.ref b1), .unset] [(.int (6 : Int32))])) _
      refine st44 _ ?_
      show Steps p.tables e below (T44.setTop (mkF m 88 #[.val (.int p1), .val (.int (6 : Int32)), .val (.ref b1), .unset] [(.ref w_HEBREW_LETTER)])) _
      refine XS.astoreN X44.here hx rfl (hb hby at_88) rfl rfl (l' := #[.val (.int p1), .val (.int (6 : Int32)), .val (.ref b1), .val (.ref w_HEBREW_LETTER)]) rfl ?_
      show Steps p.tables e below (T44.setTop (mkF m 89 #[.val (.int p1), .val (.int (6 : Int32)), .val (.ref b1), .val (.ref w_HEBREW_LETTER)] [])) _
      refine XS.aloadN X44.here hx rfl (hb hby at_89) rfl rfl ?_
      show Steps p.tables e below (T44.setTop (mkF m 90 #[.val (.int p1), .val (.int (6 : Int32)), .val (.ref b1), .val (.ref w_HEBREW_LETTER)] [(.ref w_HEBREW_LETTER)])) _
      refine st45.trans ?_
      show Steps p.tables e below (T45.setTop (mkF m 93 #[.val (.int p1), .val (.int (6 : Int32)), .val (.ref b1), .val (.ref w_HEBREW_LETTER)] [(.int (0 : Int32))])) _
      refine XS.aloadN X45.here hx rfl (hb hby at_93) rfl rfl ?_
      show Steps p.tables e below (T45.setTop (mkF m 94 #[.val (.int p1), .val (.int (6 : Int32)), .val (.ref b1), .val (.ref w_HEBREW_LETTER)] [(.ref b1), (.int (0 : Int32))])) _
      refine XS.iloadN X45.here hx rfl (hb hby at_94) rfl ?_
      show Steps p.tables e below (T45.setTop (mkF m 95 #[.val (.int p1), .val (.int (6 : Int32)), .val (.ref b1), .val (.ref w_HEBREW_LETTER)] [(.int (6 : Int32)), (.ref b1), (.int (0 : Int32))])) _
      refine X45.baloadBooleans hx (j := (6 : Int32)) (v := (.int (0 : Int32))) (by rw [e45]; exact Ar46.1) (State.isArrayOf_alike hZ.alike Ar46.2.1) Ar46.2.2 (inb_of S46 ⟨by decide, by decide⟩) (show cl46.slots[((6 : Int32)).toNatClampNeg]? = some (.int (0 : Int32)) from H46 6 (by rw [S46]; decide)) (g := (mkF m 95 #[.val (.int p1), .val (.int (6 : Int32)), .val (.ref b1), .val (.ref w_HEBREW_LETTER)] [(.int (6 : Int32)), (.ref b1), (.int (0 : Int32))])) rfl rfl (hb hby at_95) _ ?_
      show Steps p.tables e below (T45.setTop (mkF m 96 #[.val (.int p1), .val (.int (6 : Int32)), .val (.ref b1), .val (.ref w_HEBREW_LETTER)] [(.int (0 : Int32)), (.int (0 : Int32))])) _
      refine XS.icmpNo X45.here hx rfl (hb hby at_96) rfl (teq (rfl : (0 : Int32) = (0 : Int32))).2 ?_
      show Steps p.tables e below (T45.setTop (mkF m 99 #[.val (.int p1), .val (.int (6 : Int32)), .val (.ref b1), .val (.ref w_HEBREW_LETTER)] [])) _
      refine XS.iconst X45.here hx rfl (hb hby at_99) ?_
      show Steps p.tables e below (T45.setTop (mkF m 100 #[.val (.int p1), .val (.int (6 : Int32)), .val (.ref b1), .val (.ref w_HEBREW_LETTER)] [(.int (1 : Int32))])) _
      refine XS.goto X45.here hx rfl (pc0 := 100) (pc' := 104) rfl (hb hby at_100) (by decide) (by decide) ?_
      show Steps p.tables e below (T45.setTop (mkF m 104 #[.val (.int p1), .val (.int (6 : Int32)), .val (.ref b1), .val (.ref w_HEBREW_LETTER)] [(.int (1 : Int32))])) _
      exact retN X45 hx (t := .boolean) Bd.returns (by simp) (hb hby at_104) hr
    · show Q_rm0 Z p1 w_OTHER w_NEWLINE w_EXTEND w_REGIONAL_INDICATOR w_W_SEG_SPACE w_A_LETTER w_HEBREW_LETTER w_NUMERIC w_KATAKANA w_EXTEND_NUM_LET w_SOUTHEAST_ASIAN w_MID_LETTER w_MID_NUM w_MID_NUM_LET w_SINGLE_QUOTE w_DOUBLE_QUOTE h0 n0 _ T45.heap _
      rw [e45]
      exact ⟨rfl, N45⟩
  · have pre47 : ∀ t, Steps p.tables e below (T17.setTop (mkF m 84 #[.val (.int p1), .val (.int (7 : Int32)), .val (.ref b1), .unset] [])) t → Steps p.tables e below (s₁.setTop (entryFrame m #[(.int p1)] maxLocals)) t := fun t k => pre18 t (by rw [hk]; exact k)
    obtain ⟨_, _, ⟨T48, L48, k48, n48⟩, -, X48, ⟨Lc48, hQ48, l48, y48, z48⟩, st48⟩ := Jvm.LawKit.callS X17 hx (y := (⟨"com/example/omomi/omomi/WordBreakIsBetweenDigitsPinLaw", "pick", "(I)Lcom/example/omomi/omomi/WordBreak;"⟩ : MethodName)) hown (mvT hZ (hw _ (List.mem_of_getElem? (i := 1) rfl))) (mvT hZ (hw _ (List.mem_of_getElem? (i := 2) rfl))) (mvT hZ (hw _ (List.mem_of_getElem? (i := 3) rfl))) (mvT hZ (hw _ (List.mem_of_getElem? (i := 4) rfl))) (by decide) (backOf (W := 0) (rm1 l Z a0 hw [] (7 : Int32) w_OTHER w_NEWLINE w_EXTEND w_REGIONAL_INDICATOR w_W_SEG_SPACE w_A_LETTER w_HEBREW_LETTER w_NUMERIC w_KATAKANA w_EXTEND_NUM_LET w_SOUTHEAST_ASIAN w_MID_LETTER w_MID_NUM w_MID_NUM_LET w_SINGLE_QUOTE w_DOUBLE_QUOTE w_NUMERIC h17 n0 Z1 S1_OTHER S1_NEWLINE S1_EXTEND S1_REGIONAL_INDICATOR S1_W_SEG_SPACE S1_A_LETTER S1_HEBREW_LETTER S1_NUMERIC S1_KATAKANA S1_EXTEND_NUM_LET S1_SOUTHEAST_ASIAN S1_MID_LETTER S1_MID_NUM S1_MID_NUM_LET S1_SINGLE_QUOTE S1_DOUBLE_QUOTE rfl) hZ (hw _ (List.mem_of_getElem? (i := 4) rfl)) (hw _ (List.mem_of_getElem? (i := 3) rfl)) (by decide) (by decide)) (g := (mkF m 85 #[.val (.int p1), .val (.int (7 : Int32)), .val (.ref b1), .unset] [(.int (7 : Int32))])) rfl (by rw [hml]; rfl) (argsL := [(.int (7 : Int32))]) (rest := []) (lenOf pd_rm0_0 rfl) rfl (by show 2 * 0 + _ ≤ _; exact Nat.le_of_eq rfl) (hb hby at_85) (fun _ _ => ⟨rfl, e17, (by decide : 1 + 0 ≤ _), (by decide : 16 + 0 ≤ _)⟩)
    dsimp only [Pt.U, Pt.locs, Pt.cells, Pt.slots] at X48 l48 y48 z48 st48 hQ48
    subst l48 y48 z48
    obtain ⟨rfl, N48q, e48⟩ := hQ48
    have N48 := Fr.app N17 N48q
    obtain ⟨cq49, kq49, q49a, q49b, q49c⟩ := isOf hZ e48 E1_NUMERIC
    obtain ⟨_, _, ⟨T49, L49, k49, n49⟩, -, X49, ⟨Lc49, hQ49, l49, y49, z49⟩, st49⟩ := X48.virtualBack hx (y := (⟨"com/example/omomi/omomi/WordBreak", "isBetweenDigits", "()Z"⟩ : MethodName)) (z := (⟨"com/example/omomi/omomi/WordBreak", "isBetweenDigits", "()Z"⟩ : MethodName)) hown (mvT hZ (hw _ (List.mem_of_getElem? (i := 8) rfl))) (mvT hZ (hw _ (List.mem_of_getElem? (i := 9) rfl))) (notFace_of_selects (args := #[]) (mvT hZ (hw _ (List.mem_of_getElem? (i := 11) rfl)))) (mvT hZ (hw _ (List.mem_of_getElem? (i := 11) rfl))) (mvT hZ (hw _ (List.mem_of_getElem? (i := 10) rfl))) (by decide) (backOf (W := 0) (rm2 l Z a0 hw [] w_NUMERIC w_MID_NUM w_MID_NUM_LET w_SINGLE_QUOTE (0 : Int32) h17 n0 Z1 S1_MID_NUM S1_MID_NUM_LET S1_SINGLE_QUOTE (by unfold betw; exact (if_neg n_NUMERIC_MID_NUM).trans ((if_neg n_NUMERIC_MID_NUM_LET).trans (if_neg n_NUMERIC_SINGLE_QUOTE)))) hZ (hw _ (List.mem_of_getElem? (i := 12) rfl)) (hw _ (List.mem_of_getElem? (i := 6) rfl)) (by decide) (by decide)) q49a q49c (g := (mkF m 90 #[.val (.int p1), .val (.int (7 : Int32)), .val (.ref b1), .val (.ref w_NUMERIC)] [(.ref w_NUMERIC)])) rfl (by rw [hml]; rfl) (Steps.refl _) (argsL := []) (rest := []) (lenOf pd_rm0_1 rfl) rfl (by show 2 * 0 + _ ≤ _; exact Nat.le_of_eq rfl) (hb hby at_90) (fun _ _ => ⟨rfl, e48, (by decide : 1 + 0 ≤ _), (by decide : 16 + 0 ≤ _)⟩)
    dsimp only [Pt.U, Pt.locs, Pt.cells, Pt.slots] at X49 l49 y49 z49 st49 hQ49
    subst l49 y49 z49
    obtain ⟨rfl, N49q, e49⟩ := hQ49
    have N49 := Fr.app N48 N49q
    obtain ⟨cl50, Ar50, q50, S50, N50_, H50, G50⟩ := V17
    obtain ⟨fs, hr, hrun, hended, hW, hsame⟩ := X49.leave (v := some (.int (1 : Int32))) (fun h => by rw [Bd.returns] at h; cases h)
    refine ⟨_, _, pre47 _ ?_, hrun, hended, _, _, rfl, ?_, ⟨_, rfl⟩, hW, hsame.mono (by decide) (by decide)⟩
    · show Steps p.tables e below (T17.setTop (mkF m 84 #[.val (.int p1), .val (.int (7 : Int32)), .val (.ref b1), .unset] [])) _
      refine XS.iloadN X17.here hx rfl (hb hby at_84) rfl ?_
      show Steps p.tables e below (T17.setTop (mkF m 85 #[.val (.int p1), .val (.int (7 : Int32)), .val (.ref b1), .unset] [(.int (7 : Int32))])) _
      refine st48 _ ?_
      show Steps p.tables e below (T48.setTop (mkF m 88 #[.val (.int p1), .val (.int (7 : Int32)), .val (.ref b1), .unset] [(.ref w_NUMERIC)])) _
      refine XS.astoreN X48.here hx rfl (hb hby at_88) rfl rfl (l' := #[.val (.int p1), .val (.int (7 : Int32)), .val (.ref b1), .val (.ref w_NUMERIC)]) rfl ?_
      show Steps p.tables e below (T48.setTop (mkF m 89 #[.val (.int p1), .val (.int (7 : Int32)), .val (.ref b1), .val (.ref w_NUMERIC)] [])) _
      refine XS.aloadN X48.here hx rfl (hb hby at_89) rfl rfl ?_
      show Steps p.tables e below (T48.setTop (mkF m 90 #[.val (.int p1), .val (.int (7 : Int32)), .val (.ref b1), .val (.ref w_NUMERIC)] [(.ref w_NUMERIC)])) _
      refine st49.trans ?_
      show Steps p.tables e below (T49.setTop (mkF m 93 #[.val (.int p1), .val (.int (7 : Int32)), .val (.ref b1), .val (.ref w_NUMERIC)] [(.int (0 : Int32))])) _
      refine XS.aloadN X49.here hx rfl (hb hby at_93) rfl rfl ?_
      show Steps p.tables e below (T49.setTop (mkF m 94 #[.val (.int p1), .val (.int (7 : Int32)), .val (.ref b1), .val (.ref w_NUMERIC)] [(.ref b1), (.int (0 : Int32))])) _
      refine XS.iloadN X49.here hx rfl (hb hby at_94) rfl ?_
      show Steps p.tables e below (T49.setTop (mkF m 95 #[.val (.int p1), .val (.int (7 : Int32)), .val (.ref b1), .val (.ref w_NUMERIC)] [(.int (7 : Int32)), (.ref b1), (.int (0 : Int32))])) _
      refine X49.baloadBooleans hx (j := (7 : Int32)) (v := (.int (0 : Int32))) (by rw [e49]; exact Ar50.1) (State.isArrayOf_alike hZ.alike Ar50.2.1) Ar50.2.2 (inb_of S50 ⟨by decide, by decide⟩) (show cl50.slots[((7 : Int32)).toNatClampNeg]? = some (.int (0 : Int32)) from H50 7 (by rw [S50]; decide)) (g := (mkF m 95 #[.val (.int p1), .val (.int (7 : Int32)), .val (.ref b1), .val (.ref w_NUMERIC)] [(.int (7 : Int32)), (.ref b1), (.int (0 : Int32))])) rfl rfl (hb hby at_95) _ ?_
      show Steps p.tables e below (T49.setTop (mkF m 96 #[.val (.int p1), .val (.int (7 : Int32)), .val (.ref b1), .val (.ref w_NUMERIC)] [(.int (0 : Int32)), (.int (0 : Int32))])) _
      refine XS.icmpNo X49.here hx rfl (hb hby at_96) rfl (teq (rfl : (0 : Int32) = (0 : Int32))).2 ?_
      show Steps p.tables e below (T49.setTop (mkF m 99 #[.val (.int p1), .val (.int (7 : Int32)), .val (.ref b1), .val (.ref w_NUMERIC)] [])) _
      refine XS.iconst X49.here hx rfl (hb hby at_99) ?_
      show Steps p.tables e below (T49.setTop (mkF m 100 #[.val (.int p1), .val (.int (7 : Int32)), .val (.ref b1), .val (.ref w_NUMERIC)] [(.int (1 : Int32))])) _
      refine XS.goto X49.here hx rfl (pc0 := 100) (pc' := 104) rfl (hb hby at_100) (by decide) (by decide) ?_
      show Steps p.tables e below (T49.setTop (mkF m 104 #[.val (.int p1), .val (.int (7 : Int32)), .val (.ref b1), .val (.ref w_NUMERIC)] [(.int (1 : Int32))])) _
      exact retN X49 hx (t := .boolean) Bd.returns (by simp) (hb hby at_104) hr
    · show Q_rm0 Z p1 w_OTHER w_NEWLINE w_EXTEND w_REGIONAL_INDICATOR w_W_SEG_SPACE w_A_LETTER w_HEBREW_LETTER w_NUMERIC w_KATAKANA w_EXTEND_NUM_LET w_SOUTHEAST_ASIAN w_MID_LETTER w_MID_NUM w_MID_NUM_LET w_SINGLE_QUOTE w_DOUBLE_QUOTE h0 n0 _ T49.heap _
      rw [e49]
      exact ⟨rfl, N49⟩
  · have pre51 : ∀ t, Steps p.tables e below (T17.setTop (mkF m 84 #[.val (.int p1), .val (.int (8 : Int32)), .val (.ref b1), .unset] [])) t → Steps p.tables e below (s₁.setTop (entryFrame m #[(.int p1)] maxLocals)) t := fun t k => pre18 t (by rw [hk]; exact k)
    obtain ⟨_, _, ⟨T52, L52, k52, n52⟩, -, X52, ⟨Lc52, hQ52, l52, y52, z52⟩, st52⟩ := Jvm.LawKit.callS X17 hx (y := (⟨"com/example/omomi/omomi/WordBreakIsBetweenDigitsPinLaw", "pick", "(I)Lcom/example/omomi/omomi/WordBreak;"⟩ : MethodName)) hown (mvT hZ (hw _ (List.mem_of_getElem? (i := 1) rfl))) (mvT hZ (hw _ (List.mem_of_getElem? (i := 2) rfl))) (mvT hZ (hw _ (List.mem_of_getElem? (i := 3) rfl))) (mvT hZ (hw _ (List.mem_of_getElem? (i := 4) rfl))) (by decide) (backOf (W := 0) (rm1 l Z a0 hw [] (8 : Int32) w_OTHER w_NEWLINE w_EXTEND w_REGIONAL_INDICATOR w_W_SEG_SPACE w_A_LETTER w_HEBREW_LETTER w_NUMERIC w_KATAKANA w_EXTEND_NUM_LET w_SOUTHEAST_ASIAN w_MID_LETTER w_MID_NUM w_MID_NUM_LET w_SINGLE_QUOTE w_DOUBLE_QUOTE w_KATAKANA h17 n0 Z1 S1_OTHER S1_NEWLINE S1_EXTEND S1_REGIONAL_INDICATOR S1_W_SEG_SPACE S1_A_LETTER S1_HEBREW_LETTER S1_NUMERIC S1_KATAKANA S1_EXTEND_NUM_LET S1_SOUTHEAST_ASIAN S1_MID_LETTER S1_MID_NUM S1_MID_NUM_LET S1_SINGLE_QUOTE S1_DOUBLE_QUOTE rfl) hZ (hw _ (List.mem_of_getElem? (i := 4) rfl)) (hw _ (List.mem_of_getElem? (i := 3) rfl)) (by decide) (by decide)) (g := (mkF m 85 #[.val (.int p1), .val (.int (8 : Int32)), .val (.ref b1), .unset] [(.int (8 : Int32))])) rfl (by rw [hml]; rfl) (argsL := [(.int (8 : Int32))]) (rest := []) (lenOf pd_rm0_0 rfl) rfl (by show 2 * 0 + _ ≤ _; exact Nat.le_of_eq rfl) (hb hby at_85) (fun _ _ => ⟨rfl, e17, (by decide : 1 + 0 ≤ _), (by decide : 16 + 0 ≤ _)⟩)
    dsimp only [Pt.U, Pt.locs, Pt.cells, Pt.slots] at X52 l52 y52 z52 st52 hQ52
    subst l52 y52 z52
    obtain ⟨rfl, N52q, e52⟩ := hQ52
    have N52 := Fr.app N17 N52q
    obtain ⟨cq53, kq53, q53a, q53b, q53c⟩ := isOf hZ e52 E1_KATAKANA
    obtain ⟨_, _, ⟨T53, L53, k53, n53⟩, -, X53, ⟨Lc53, hQ53, l53, y53, z53⟩, st53⟩ := X52.virtualBack hx (y := (⟨"com/example/omomi/omomi/WordBreak", "isBetweenDigits", "()Z"⟩ : MethodName)) (z := (⟨"com/example/omomi/omomi/WordBreak", "isBetweenDigits", "()Z"⟩ : MethodName)) hown (mvT hZ (hw _ (List.mem_of_getElem? (i := 8) rfl))) (mvT hZ (hw _ (List.mem_of_getElem? (i := 9) rfl))) (notFace_of_selects (args := #[]) (mvT hZ (hw _ (List.mem_of_getElem? (i := 11) rfl)))) (mvT hZ (hw _ (List.mem_of_getElem? (i := 11) rfl))) (mvT hZ (hw _ (List.mem_of_getElem? (i := 10) rfl))) (by decide) (backOf (W := 0) (rm2 l Z a0 hw [] w_KATAKANA w_MID_NUM w_MID_NUM_LET w_SINGLE_QUOTE (0 : Int32) h17 n0 Z1 S1_MID_NUM S1_MID_NUM_LET S1_SINGLE_QUOTE (by unfold betw; exact (if_neg n_KATAKANA_MID_NUM).trans ((if_neg n_KATAKANA_MID_NUM_LET).trans (if_neg n_KATAKANA_SINGLE_QUOTE)))) hZ (hw _ (List.mem_of_getElem? (i := 12) rfl)) (hw _ (List.mem_of_getElem? (i := 6) rfl)) (by decide) (by decide)) q53a q53c (g := (mkF m 90 #[.val (.int p1), .val (.int (8 : Int32)), .val (.ref b1), .val (.ref w_KATAKANA)] [(.ref w_KATAKANA)])) rfl (by rw [hml]; rfl) (Steps.refl _) (argsL := []) (rest := []) (lenOf pd_rm0_1 rfl) rfl (by show 2 * 0 + _ ≤ _; exact Nat.le_of_eq rfl) (hb hby at_90) (fun _ _ => ⟨rfl, e52, (by decide : 1 + 0 ≤ _), (by decide : 16 + 0 ≤ _)⟩)
    dsimp only [Pt.U, Pt.locs, Pt.cells, Pt.slots] at X53 l53 y53 z53 st53 hQ53
    subst l53 y53 z53
    obtain ⟨rfl, N53q, e53⟩ := hQ53
    have N53 := Fr.app N52 N53q
    obtain ⟨cl54, Ar54, q54, S54, N54_, H54, G54⟩ := V17
    obtain ⟨fs, hr, hrun, hended, hW, hsame⟩ := X53.leave (v := some (.int (1 : Int32))) (fun h => by rw [Bd.returns] at h; cases h)
    refine ⟨_, _, pre51 _ ?_, hrun, hended, _, _, rfl, ?_, ⟨_, rfl⟩, hW, hsame.mono (by decide) (by decide)⟩
    · show Steps p.tables e below (T17.setTop (mkF m 84 #[.val (.int p1), .val (.int (8 : Int32)), .val (.ref b1), .unset] [])) _
      refine XS.iloadN X17.here hx rfl (hb hby at_84) rfl ?_
      show Steps p.tables e below (T17.setTop (mkF m 85 #[.val (.int p1), .val (.int (8 : Int32)), .val (.ref b1), .unset] [(.int (8 : Int32))])) _
      refine st52 _ ?_
      show Steps p.tables e below (T52.setTop (mkF m 88 #[.val (.int p1), .val (.int (8 : Int32)), .val (.ref b1), .unset] [(.ref w_KATAKANA)])) _
      refine XS.astoreN X52.here hx rfl (hb hby at_88) rfl rfl (l' := #[.val (.int p1), .val (.int (8 : Int32)), .val (.ref b1), .val (.ref w_KATAKANA)]) rfl ?_
      show Steps p.tables e below (T52.setTop (mkF m 89 #[.val (.int p1), .val (.int (8 : Int32)), .val (.ref b1), .val (.ref w_KATAKANA)] [])) _
      refine XS.aloadN X52.here hx rfl (hb hby at_89) rfl rfl ?_
      show Steps p.tables e below (T52.setTop (mkF m 90 #[.val (.int p1), .val (.int (8 : Int32)), .val (.ref b1), .val (.ref w_KATAKANA)] [(.ref w_KATAKANA)])) _
      refine st53.trans ?_
      show Steps p.tables e below (T53.setTop (mkF m 93 #[.val (.int p1), .val (.int (8 : Int32)), .val (.ref b1), .val (.ref w_KATAKANA)] [(.int (0 : Int32))])) _
      refine XS.aloadN X53.here hx rfl (hb hby at_93) rfl rfl ?_
      show Steps p.tables e below (T53.setTop (mkF m 94 #[.val (.int p1), .val (.int (8 : Int32)), .val (.ref b1), .val (.ref w_KATAKANA)] [(.ref b1), (.int (0 : Int32))])) _
      refine XS.iloadN X53.here hx rfl (hb hby at_94) rfl ?_
      show Steps p.tables e below (T53.setTop (mkF m 95 #[.val (.int p1), .val (.int (8 : Int32)), .val (.ref b1), .val (.ref w_KATAKANA)] [(.int (8 : Int32)), (.ref b1), (.int (0 : Int32))])) _
      refine X53.baloadBooleans hx (j := (8 : Int32)) (v := (.int (0 : Int32))) (by rw [e53]; exact Ar54.1) (State.isArrayOf_alike hZ.alike Ar54.2.1) Ar54.2.2 (inb_of S54 ⟨by decide, by decide⟩) (show cl54.slots[((8 : Int32)).toNatClampNeg]? = some (.int (0 : Int32)) from H54 8 (by rw [S54]; decide)) (g := (mkF m 95 #[.val (.int p1), .val (.int (8 : Int32)), .val (.ref b1), .val (.ref w_KATAKANA)] [(.int (8 : Int32)), (.ref b1), (.int (0 : Int32))])) rfl rfl (hb hby at_95) _ ?_
      show Steps p.tables e below (T53.setTop (mkF m 96 #[.val (.int p1), .val (.int (8 : Int32)), .val (.ref b1), .val (.ref w_KATAKANA)] [(.int (0 : Int32)), (.int (0 : Int32))])) _
      refine XS.icmpNo X53.here hx rfl (hb hby at_96) rfl (teq (rfl : (0 : Int32) = (0 : Int32))).2 ?_
      show Steps p.tables e below (T53.setTop (mkF m 99 #[.val (.int p1), .val (.int (8 : Int32)), .val (.ref b1), .val (.ref w_KATAKANA)] [])) _
      refine XS.iconst X53.here hx rfl (hb hby at_99) ?_
      show Steps p.tables e below (T53.setTop (mkF m 100 #[.val (.int p1), .val (.int (8 : Int32)), .val (.ref b1), .val (.ref w_KATAKANA)] [(.int (1 : Int32))])) _
      refine XS.goto X53.here hx rfl (pc0 := 100) (pc' := 104) rfl (hb hby at_100) (by decide) (by decide) ?_
      show Steps p.tables e below (T53.setTop (mkF m 104 #[.val (.int p1), .val (.int (8 : Int32)), .val (.ref b1), .val (.ref w_KATAKANA)] [(.int (1 : Int32))])) _
      exact retN X53 hx (t := .boolean) Bd.returns (by simp) (hb hby at_104) hr
    · show Q_rm0 Z p1 w_OTHER w_NEWLINE w_EXTEND w_REGIONAL_INDICATOR w_W_SEG_SPACE w_A_LETTER w_HEBREW_LETTER w_NUMERIC w_KATAKANA w_EXTEND_NUM_LET w_SOUTHEAST_ASIAN w_MID_LETTER w_MID_NUM w_MID_NUM_LET w_SINGLE_QUOTE w_DOUBLE_QUOTE h0 n0 _ T53.heap _
      rw [e53]
      exact ⟨rfl, N53⟩
  · have pre55 : ∀ t, Steps p.tables e below (T17.setTop (mkF m 84 #[.val (.int p1), .val (.int (9 : Int32)), .val (.ref b1), .unset] [])) t → Steps p.tables e below (s₁.setTop (entryFrame m #[(.int p1)] maxLocals)) t := fun t k => pre18 t (by rw [hk]; exact k)
    obtain ⟨_, _, ⟨T56, L56, k56, n56⟩, -, X56, ⟨Lc56, hQ56, l56, y56, z56⟩, st56⟩ := Jvm.LawKit.callS X17 hx (y := (⟨"com/example/omomi/omomi/WordBreakIsBetweenDigitsPinLaw", "pick", "(I)Lcom/example/omomi/omomi/WordBreak;"⟩ : MethodName)) hown (mvT hZ (hw _ (List.mem_of_getElem? (i := 1) rfl))) (mvT hZ (hw _ (List.mem_of_getElem? (i := 2) rfl))) (mvT hZ (hw _ (List.mem_of_getElem? (i := 3) rfl))) (mvT hZ (hw _ (List.mem_of_getElem? (i := 4) rfl))) (by decide) (backOf (W := 0) (rm1 l Z a0 hw [] (9 : Int32) w_OTHER w_NEWLINE w_EXTEND w_REGIONAL_INDICATOR w_W_SEG_SPACE w_A_LETTER w_HEBREW_LETTER w_NUMERIC w_KATAKANA w_EXTEND_NUM_LET w_SOUTHEAST_ASIAN w_MID_LETTER w_MID_NUM w_MID_NUM_LET w_SINGLE_QUOTE w_DOUBLE_QUOTE w_EXTEND_NUM_LET h17 n0 Z1 S1_OTHER S1_NEWLINE S1_EXTEND S1_REGIONAL_INDICATOR S1_W_SEG_SPACE S1_A_LETTER S1_HEBREW_LETTER S1_NUMERIC S1_KATAKANA S1_EXTEND_NUM_LET S1_SOUTHEAST_ASIAN S1_MID_LETTER S1_MID_NUM S1_MID_NUM_LET S1_SINGLE_QUOTE S1_DOUBLE_QUOTE rfl) hZ (hw _ (List.mem_of_getElem? (i := 4) rfl)) (hw _ (List.mem_of_getElem? (i := 3) rfl)) (by decide) (by decide)) (g := (mkF m 85 #[.val (.int p1), .val (.int (9 : Int32)), .val (.ref b1), .unset] [(.int (9 : Int32))])) rfl (by rw [hml]; rfl) (argsL := [(.int (9 : Int32))]) (rest := []) (lenOf pd_rm0_0 rfl) rfl (by show 2 * 0 + _ ≤ _; exact Nat.le_of_eq rfl) (hb hby at_85) (fun _ _ => ⟨rfl, e17, (by decide : 1 + 0 ≤ _), (by decide : 16 + 0 ≤ _)⟩)
    dsimp only [Pt.U, Pt.locs, Pt.cells, Pt.slots] at X56 l56 y56 z56 st56 hQ56
    subst l56 y56 z56
    obtain ⟨rfl, N56q, e56⟩ := hQ56
    have N56 := Fr.app N17 N56q
    obtain ⟨cq57, kq57, q57a, q57b, q57c⟩ := isOf hZ e56 E1_EXTEND_NUM_LET
    obtain ⟨_, _, ⟨T57, L57, k57, n57⟩, -, X57, ⟨Lc57, hQ57, l57, y57, z57⟩, st57⟩ := X56.virtualBack hx (y := (⟨"com/example/omomi/omomi/WordBreak", "isBetweenDigits", "()Z"⟩ : MethodName)) (z := (⟨"com/example/omomi/omomi/WordBreak", "isBetweenDigits", "()Z"⟩ : MethodName)) hown (mvT hZ (hw _ (List.mem_of_getElem? (i := 8) rfl))) (mvT hZ (hw _ (List.mem_of_getElem? (i := 9) rfl))) (notFace_of_selects (args := #[]) (mvT hZ (hw _ (List.mem_of_getElem? (i := 11) rfl)))) (mvT hZ (hw _ (List.mem_of_getElem? (i := 11) rfl))) (mvT hZ (hw _ (List.mem_of_getElem? (i := 10) rfl))) (by decide) (backOf (W := 0) (rm2 l Z a0 hw [] w_EXTEND_NUM_LET w_MID_NUM w_MID_NUM_LET w_SINGLE_QUOTE (0 : Int32) h17 n0 Z1 S1_MID_NUM S1_MID_NUM_LET S1_SINGLE_QUOTE (by unfold betw; exact (if_neg n_EXTEND_NUM_LET_MID_NUM).trans ((if_neg n_EXTEND_NUM_LET_MID_NUM_LET).trans (if_neg n_EXTEND_NUM_LET_SINGLE_QUOTE)))) hZ (hw _ (List.mem_of_getElem? (i := 12) rfl)) (hw _ (List.mem_of_getElem? (i := 6) rfl)) (by decide) (by decide)) q57a q57c (g := (mkF m 90 #[.val (.int p1), .val (.int (9 : Int32)), .val (.ref b1), .val (.ref w_EXTEND_NUM_LET)] [(.ref w_EXTEND_NUM_LET)])) rfl (by rw [hml]; rfl) (Steps.refl _) (argsL := []) (rest := []) (lenOf pd_rm0_1 rfl) rfl (by show 2 * 0 + _ ≤ _; exact Nat.le_of_eq rfl) (hb hby at_90) (fun _ _ => ⟨rfl, e56, (by decide : 1 + 0 ≤ _), (by decide : 16 + 0 ≤ _)⟩)
    dsimp only [Pt.U, Pt.locs, Pt.cells, Pt.slots] at X57 l57 y57 z57 st57 hQ57
    subst l57 y57 z57
    obtain ⟨rfl, N57q, e57⟩ := hQ57
    have N57 := Fr.app N56 N57q
    obtain ⟨cl58, Ar58, q58, S58, N58_, H58, G58⟩ := V17
    obtain ⟨fs, hr, hrun, hended, hW, hsame⟩ := X57.leave (v := some (.int (1 : Int32))) (fun h => by rw [Bd.returns] at h; cases h)
    refine ⟨_, _, pre55 _ ?_, hrun, hended, _, _, rfl, ?_, ⟨_, rfl⟩, hW, hsame.mono (by decide) (by decide)⟩
    · show Steps p.tables e below (T17.setTop (mkF m 84 #[.val (.int p1), .val (.int (9 : Int32)), .val (.ref b1), .unset] [])) _
      refine XS.iloadN X17.here hx rfl (hb hby at_84) rfl ?_
      show Steps p.tables e below (T17.setTop (mkF m 85 #[.val (.int p1), .val (.int (9 : Int32)), .val (.ref b1), .unset] [(.int (9 : Int32))])) _
      refine st56 _ ?_
      show Steps p.tables e below (T56.setTop (mkF m 88 #[.val (.int p1), .val (.int (9 : Int32)), .val (.ref b1), .unset] [(.ref w_EXTEND_NUM_LET)])) _
      refine XS.astoreN X56.here hx rfl (hb hby at_88) rfl rfl (l' := #[.val (.int p1), .val (.int (9 : Int32)), .val (.ref b1), .val (.ref w_EXTEND_NUM_LET)]) rfl ?_
      show Steps p.tables e below (T56.setTop (mkF m 89 #[.val (.int p1), .val (.int (9 : Int32)), .val (.ref b1), .val (.ref w_EXTEND_NUM_LET)] [])) _
      refine XS.aloadN X56.here hx rfl (hb hby at_89) rfl rfl ?_
      show Steps p.tables e below (T56.setTop (mkF m 90 #[.val (.int p1), .val (.int (9 : Int32)), .val (.ref b1), .val (.ref w_EXTEND_NUM_LET)] [(.ref w_EXTEND_NUM_LET)])) _
      refine st57.trans ?_
      show Steps p.tables e below (T57.setTop (mkF m 93 #[.val (.int p1), .val (.int (9 : Int32)), .val (.ref b1), .val (.ref w_EXTEND_NUM_LET)] [(.int (0 : Int32))])) _
      refine XS.aloadN X57.here hx rfl (hb hby at_93) rfl rfl ?_
      show Steps p.tables e below (T57.setTop (mkF m 94 #[.val (.int p1), .val (.int (9 : Int32)), .val (.ref b1), .val (.ref w_EXTEND_NUM_LET)] [(.ref b1), (.int (0 : Int32))])) _
      refine XS.iloadN X57.here hx rfl (hb hby at_94) rfl ?_
      show Steps p.tables e below (T57.setTop (mkF m 95 #[.val (.int p1), .val (.int (9 : Int32)), .val (.ref b1), .val (.ref w_EXTEND_NUM_LET)] [(.int (9 : Int32)), (.ref b1), (.int (0 : Int32))])) _
      refine X57.baloadBooleans hx (j := (9 : Int32)) (v := (.int (0 : Int32))) (by rw [e57]; exact Ar58.1) (State.isArrayOf_alike hZ.alike Ar58.2.1) Ar58.2.2 (inb_of S58 ⟨by decide, by decide⟩) (show cl58.slots[((9 : Int32)).toNatClampNeg]? = some (.int (0 : Int32)) from H58 9 (by rw [S58]; decide)) (g := (mkF m 95 #[.val (.int p1), .val (.int (9 : Int32)), .val (.ref b1), .val (.ref w_EXTEND_NUM_LET)] [(.int (9 : Int32)), (.ref b1), (.int (0 : Int32))])) rfl rfl (hb hby at_95) _ ?_
      show Steps p.tables e below (T57.setTop (mkF m 96 #[.val (.int p1), .val (.int (9 : Int32)), .val (.ref b1), .val (.ref w_EXTEND_NUM_LET)] [(.int (0 : Int32)), (.int (0 : Int32))])) _
      refine XS.icmpNo X57.here hx rfl (hb hby at_96) rfl (teq (rfl : (0 : Int32) = (0 : Int32))).2 ?_
      show Steps p.tables e below (T57.setTop (mkF m 99 #[.val (.int p1), .val (.int (9 : Int32)), .val (.ref b1), .val (.ref w_EXTEND_NUM_LET)] [])) _
      refine XS.iconst X57.here hx rfl (hb hby at_99) ?_
      show Steps p.tables e below (T57.setTop (mkF m 100 #[.val (.int p1), .val (.int (9 : Int32)), .val (.ref b1), .val (.ref w_EXTEND_NUM_LET)] [(.int (1 : Int32))])) _
      refine XS.goto X57.here hx rfl (pc0 := 100) (pc' := 104) rfl (hb hby at_100) (by decide) (by decide) ?_
      show Steps p.tables e below (T57.setTop (mkF m 104 #[.val (.int p1), .val (.int (9 : Int32)), .val (.ref b1), .val (.ref w_EXTEND_NUM_LET)] [(.int (1 : Int32))])) _
      exact retN X57 hx (t := .boolean) Bd.returns (by simp) (hb hby at_104) hr
    · show Q_rm0 Z p1 w_OTHER w_NEWLINE w_EXTEND w_REGIONAL_INDICATOR w_W_SEG_SPACE w_A_LETTER w_HEBREW_LETTER w_NUMERIC w_KATAKANA w_EXTEND_NUM_LET w_SOUTHEAST_ASIAN w_MID_LETTER w_MID_NUM w_MID_NUM_LET w_SINGLE_QUOTE w_DOUBLE_QUOTE h0 n0 _ T57.heap _
      rw [e57]
      exact ⟨rfl, N57⟩
  · have pre59 : ∀ t, Steps p.tables e below (T17.setTop (mkF m 84 #[.val (.int p1), .val (.int (10 : Int32)), .val (.ref b1), .unset] [])) t → Steps p.tables e below (s₁.setTop (entryFrame m #[(.int p1)] maxLocals)) t := fun t k => pre18 t (by rw [hk]; exact k)
    obtain ⟨_, _, ⟨T60, L60, k60, n60⟩, -, X60, ⟨Lc60, hQ60, l60, y60, z60⟩, st60⟩ := Jvm.LawKit.callS X17 hx (y := (⟨"com/example/omomi/omomi/WordBreakIsBetweenDigitsPinLaw", "pick", "(I)Lcom/example/omomi/omomi/WordBreak;"⟩ : MethodName)) hown (mvT hZ (hw _ (List.mem_of_getElem? (i := 1) rfl))) (mvT hZ (hw _ (List.mem_of_getElem? (i := 2) rfl))) (mvT hZ (hw _ (List.mem_of_getElem? (i := 3) rfl))) (mvT hZ (hw _ (List.mem_of_getElem? (i := 4) rfl))) (by decide) (backOf (W := 0) (rm1 l Z a0 hw [] (10 : Int32) w_OTHER w_NEWLINE w_EXTEND w_REGIONAL_INDICATOR w_W_SEG_SPACE w_A_LETTER w_HEBREW_LETTER w_NUMERIC w_KATAKANA w_EXTEND_NUM_LET w_SOUTHEAST_ASIAN w_MID_LETTER w_MID_NUM w_MID_NUM_LET w_SINGLE_QUOTE w_DOUBLE_QUOTE w_SOUTHEAST_ASIAN h17 n0 Z1 S1_OTHER S1_NEWLINE S1_EXTEND S1_REGIONAL_INDICATOR S1_W_SEG_SPACE S1_A_LETTER S1_HEBREW_LETTER S1_NUMERIC S1_KATAKANA S1_EXTEND_NUM_LET S1_SOUTHEAST_ASIAN S1_MID_LETTER S1_MID_NUM S1_MID_NUM_LET S1_SINGLE_QUOTE S1_DOUBLE_QUOTE rfl) hZ (hw _ (List.mem_of_getElem? (i := 4) rfl)) (hw _ (List.mem_of_getElem? (i := 3) rfl)) (by decide) (by decide)) (g := (mkF m 85 #[.val (.int p1), .val (.int (10 : Int32)), .val (.ref b1), .unset] [(.int (10 : Int32))])) rfl (by rw [hml]; rfl) (argsL := [(.int (10 : Int32))]) (rest := []) (lenOf pd_rm0_0 rfl) rfl (by show 2 * 0 + _ ≤ _; exact Nat.le_of_eq rfl) (hb hby at_85) (fun _ _ => ⟨rfl, e17, (by decide : 1 + 0 ≤ _), (by decide : 16 + 0 ≤ _)⟩)
    dsimp only [Pt.U, Pt.locs, Pt.cells, Pt.slots] at X60 l60 y60 z60 st60 hQ60
    subst l60 y60 z60
    obtain ⟨rfl, N60q, e60⟩ := hQ60
    have N60 := Fr.app N17 N60q
    obtain ⟨cq61, kq61, q61a, q61b, q61c⟩ := isOf hZ e60 E1_SOUTHEAST_ASIAN
    obtain ⟨_, _, ⟨T61, L61, k61, n61⟩, -, X61, ⟨Lc61, hQ61, l61, y61, z61⟩, st61⟩ := X60.virtualBack hx (y := (⟨"com/example/omomi/omomi/WordBreak", "isBetweenDigits", "()Z"⟩ : MethodName)) (z := (⟨"com/example/omomi/omomi/WordBreak", "isBetweenDigits", "()Z"⟩ : MethodName)) hown (mvT hZ (hw _ (List.mem_of_getElem? (i := 8) rfl))) (mvT hZ (hw _ (List.mem_of_getElem? (i := 9) rfl))) (notFace_of_selects (args := #[]) (mvT hZ (hw _ (List.mem_of_getElem? (i := 11) rfl)))) (mvT hZ (hw _ (List.mem_of_getElem? (i := 11) rfl))) (mvT hZ (hw _ (List.mem_of_getElem? (i := 10) rfl))) (by decide) (backOf (W := 0) (rm2 l Z a0 hw [] w_SOUTHEAST_ASIAN w_MID_NUM w_MID_NUM_LET w_SINGLE_QUOTE (0 : Int32) h17 n0 Z1 S1_MID_NUM S1_MID_NUM_LET S1_SINGLE_QUOTE (by unfold betw; exact (if_neg n_SOUTHEAST_ASIAN_MID_NUM).trans ((if_neg n_SOUTHEAST_ASIAN_MID_NUM_LET).trans (if_neg n_SOUTHEAST_ASIAN_SINGLE_QUOTE)))) hZ (hw _ (List.mem_of_getElem? (i := 12) rfl)) (hw _ (List.mem_of_getElem? (i := 6) rfl)) (by decide) (by decide)) q61a q61c (g := (mkF m 90 #[.val (.int p1), .val (.int (10 : Int32)), .val (.ref b1), .val (.ref w_SOUTHEAST_ASIAN)] [(.ref w_SOUTHEAST_ASIAN)])) rfl (by rw [hml]; rfl) (Steps.refl _) (argsL := []) (rest := []) (lenOf pd_rm0_1 rfl) rfl (by show 2 * 0 + _ ≤ _; exact Nat.le_of_eq rfl) (hb hby at_90) (fun _ _ => ⟨rfl, e60, (by decide : 1 + 0 ≤ _), (by decide : 16 + 0 ≤ _)⟩)
    dsimp only [Pt.U, Pt.locs, Pt.cells, Pt.slots] at X61 l61 y61 z61 st61 hQ61
    subst l61 y61 z61
    obtain ⟨rfl, N61q, e61⟩ := hQ61
    have N61 := Fr.app N60 N61q
    obtain ⟨cl62, Ar62, q62, S62, N62_, H62, G62⟩ := V17
    obtain ⟨fs, hr, hrun, hended, hW, hsame⟩ := X61.leave (v := some (.int (1 : Int32))) (fun h => by rw [Bd.returns] at h; cases h)
    refine ⟨_, _, pre59 _ ?_, hrun, hended, _, _, rfl, ?_, ⟨_, rfl⟩, hW, hsame.mono (by decide) (by decide)⟩
    · show Steps p.tables e below (T17.setTop (mkF m 84 #[.val (.int p1), .val (.int (10 : Int32)), .val (.ref b1), .unset] [])) _
      refine XS.iloadN X17.here hx rfl (hb hby at_84) rfl ?_
      show Steps p.tables e below (T17.setTop (mkF m 85 #[.val (.int p1), .val (.int (10 : Int32)), .val (.ref b1), .unset] [(.int (10 : Int32))])) _
      refine st60 _ ?_
      show Steps p.tables e below (T60.setTop (mkF m 88 #[.val (.int p1), .val (.int (10 : Int32)), .val (.ref b1), .unset] [(.ref w_SOUTHEAST_ASIAN)])) _
      refine XS.astoreN X60.here hx rfl (hb hby at_88) rfl rfl (l' := #[.val (.int p1), .val (.int (10 : Int32)), .val (.ref b1), .val (.ref w_SOUTHEAST_ASIAN)]) rfl ?_
      show Steps p.tables e below (T60.setTop (mkF m 89 #[.val (.int p1), .val (.int (10 : Int32)), .val (.ref b1), .val (.ref w_SOUTHEAST_ASIAN)] [])) _
      refine XS.aloadN X60.here hx rfl (hb hby at_89) rfl rfl ?_
      show Steps p.tables e below (T60.setTop (mkF m 90 #[.val (.int p1), .val (.int (10 : Int32)), .val (.ref b1), .val (.ref w_SOUTHEAST_ASIAN)] [(.ref w_SOUTHEAST_ASIAN)])) _
      refine st61.trans ?_
      show Steps p.tables e below (T61.setTop (mkF m 93 #[.val (.int p1), .val (.int (10 : Int32)), .val (.ref b1), .val (.ref w_SOUTHEAST_ASIAN)] [(.int (0 : Int32))])) _
      refine XS.aloadN X61.here hx rfl (hb hby at_93) rfl rfl ?_
      show Steps p.tables e below (T61.setTop (mkF m 94 #[.val (.int p1), .val (.int (10 : Int32)), .val (.ref b1), .val (.ref w_SOUTHEAST_ASIAN)] [(.ref b1), (.int (0 : Int32))])) _
      refine XS.iloadN X61.here hx rfl (hb hby at_94) rfl ?_
      show Steps p.tables e below (T61.setTop (mkF m 95 #[.val (.int p1), .val (.int (10 : Int32)), .val (.ref b1), .val (.ref w_SOUTHEAST_ASIAN)] [(.int (10 : Int32)), (.ref b1), (.int (0 : Int32))])) _
      refine X61.baloadBooleans hx (j := (10 : Int32)) (v := (.int (0 : Int32))) (by rw [e61]; exact Ar62.1) (State.isArrayOf_alike hZ.alike Ar62.2.1) Ar62.2.2 (inb_of S62 ⟨by decide, by decide⟩) (show cl62.slots[((10 : Int32)).toNatClampNeg]? = some (.int (0 : Int32)) from H62 10 (by rw [S62]; decide)) (g := (mkF m 95 #[.val (.int p1), .val (.int (10 : Int32)), .val (.ref b1), .val (.ref w_SOUTHEAST_ASIAN)] [(.int (10 : Int32)), (.ref b1), (.int (0 : Int32))])) rfl rfl (hb hby at_95) _ ?_
      show Steps p.tables e below (T61.setTop (mkF m 96 #[.val (.int p1), .val (.int (10 : Int32)), .val (.ref b1), .val (.ref w_SOUTHEAST_ASIAN)] [(.int (0 : Int32)), (.int (0 : Int32))])) _
      refine XS.icmpNo X61.here hx rfl (hb hby at_96) rfl (teq (rfl : (0 : Int32) = (0 : Int32))).2 ?_
      show Steps p.tables e below (T61.setTop (mkF m 99 #[.val (.int p1), .val (.int (10 : Int32)), .val (.ref b1), .val (.ref w_SOUTHEAST_ASIAN)] [])) _
      refine XS.iconst X61.here hx rfl (hb hby at_99) ?_
      show Steps p.tables e below (T61.setTop (mkF m 100 #[.val (.int p1), .val (.int (10 : Int32)), .val (.ref b1), .val (.ref w_SOUTHEAST_ASIAN)] [(.int (1 : Int32))])) _
      refine XS.goto X61.here hx rfl (pc0 := 100) (pc' := 104) rfl (hb hby at_100) (by decide) (by decide) ?_
      show Steps p.tables e below (T61.setTop (mkF m 104 #[.val (.int p1), .val (.int (10 : Int32)), .val (.ref b1), .val (.ref w_SOUTHEAST_ASIAN)] [(.int (1 : Int32))])) _
      exact retN X61 hx (t := .boolean) Bd.returns (by simp) (hb hby at_104) hr
    · show Q_rm0 Z p1 w_OTHER w_NEWLINE w_EXTEND w_REGIONAL_INDICATOR w_W_SEG_SPACE w_A_LETTER w_HEBREW_LETTER w_NUMERIC w_KATAKANA w_EXTEND_NUM_LET w_SOUTHEAST_ASIAN w_MID_LETTER w_MID_NUM w_MID_NUM_LET w_SINGLE_QUOTE w_DOUBLE_QUOTE h0 n0 _ T61.heap _
      rw [e61]
      exact ⟨rfl, N61⟩
  · have pre63 : ∀ t, Steps p.tables e below (T17.setTop (mkF m 84 #[.val (.int p1), .val (.int (11 : Int32)), .val (.ref b1), .unset] [])) t → Steps p.tables e below (s₁.setTop (entryFrame m #[(.int p1)] maxLocals)) t := fun t k => pre18 t (by rw [hk]; exact k)
    obtain ⟨_, _, ⟨T64, L64, k64, n64⟩, -, X64, ⟨Lc64, hQ64, l64, y64, z64⟩, st64⟩ := Jvm.LawKit.callS X17 hx (y := (⟨"com/example/omomi/omomi/WordBreakIsBetweenDigitsPinLaw", "pick", "(I)Lcom/example/omomi/omomi/WordBreak;"⟩ : MethodName)) hown (mvT hZ (hw _ (List.mem_of_getElem? (i := 1) rfl))) (mvT hZ (hw _ (List.mem_of_getElem? (i := 2) rfl))) (mvT hZ (hw _ (List.mem_of_getElem? (i := 3) rfl))) (mvT hZ (hw _ (List.mem_of_getElem? (i := 4) rfl))) (by decide) (backOf (W := 0) (rm1 l Z a0 hw [] (11 : Int32) w_OTHER w_NEWLINE w_EXTEND w_REGIONAL_INDICATOR w_W_SEG_SPACE w_A_LETTER w_HEBREW_LETTER w_NUMERIC w_KATAKANA w_EXTEND_NUM_LET w_SOUTHEAST_ASIAN w_MID_LETTER w_MID_NUM w_MID_NUM_LET w_SINGLE_QUOTE w_DOUBLE_QUOTE w_MID_LETTER h17 n0 Z1 S1_OTHER S1_NEWLINE S1_EXTEND S1_REGIONAL_INDICATOR S1_W_SEG_SPACE S1_A_LETTER S1_HEBREW_LETTER S1_NUMERIC S1_KATAKANA S1_EXTEND_NUM_LET S1_SOUTHEAST_ASIAN S1_MID_LETTER S1_MID_NUM S1_MID_NUM_LET S1_SINGLE_QUOTE S1_DOUBLE_QUOTE rfl) hZ (hw _ (List.mem_of_getElem? (i := 4) rfl)) (hw _ (List.mem_of_getElem? (i := 3) rfl)) (by decide) (by decide)) (g := (mkF m 85 #[.val (.int p1), .val (.int (11 : Int32)), .val (.ref b1), .unset] [(.int (11 : Int32))])) rfl (by rw [hml]; rfl) (argsL := [(.int (11 : Int32))]) (rest := []) (lenOf pd_rm0_0 rfl) rfl (by show 2 * 0 + _ ≤ _; exact Nat.le_of_eq rfl) (hb hby at_85) (fun _ _ => ⟨rfl, e17, (by decide : 1 + 0 ≤ _), (by decide : 16 + 0 ≤ _)⟩)
    dsimp only [Pt.U, Pt.locs, Pt.cells, Pt.slots] at X64 l64 y64 z64 st64 hQ64
    subst l64 y64 z64
    obtain ⟨rfl, N64q, e64⟩ := hQ64
    have N64 := Fr.app N17 N64q
    obtain ⟨cq65, kq65, q65a, q65b, q65c⟩ := isOf hZ e64 E1_MID_LETTER
    obtain ⟨_, _, ⟨T65, L65, k65, n65⟩, -, X65, ⟨Lc65, hQ65, l65, y65, z65⟩, st65⟩ := X64.virtualBack hx (y := (⟨"com/example/omomi/omomi/WordBreak", "isBetweenDigits", "()Z"⟩ : MethodName)) (z := (⟨"com/example/omomi/omomi/WordBreak", "isBetweenDigits", "()Z"⟩ : MethodName)) hown (mvT hZ (hw _ (List.mem_of_getElem? (i := 8) rfl))) (mvT hZ (hw _ (List.mem_of_getElem? (i := 9) rfl))) (notFace_of_selects (args := #[]) (mvT hZ (hw _ (List.mem_of_getElem? (i := 11) rfl)))) (mvT hZ (hw _ (List.mem_of_getElem? (i := 11) rfl))) (mvT hZ (hw _ (List.mem_of_getElem? (i := 10) rfl))) (by decide) (backOf (W := 0) (rm2 l Z a0 hw [] w_MID_LETTER w_MID_NUM w_MID_NUM_LET w_SINGLE_QUOTE (0 : Int32) h17 n0 Z1 S1_MID_NUM S1_MID_NUM_LET S1_SINGLE_QUOTE (by unfold betw; exact (if_neg n_MID_LETTER_MID_NUM).trans ((if_neg n_MID_LETTER_MID_NUM_LET).trans (if_neg n_MID_LETTER_SINGLE_QUOTE)))) hZ (hw _ (List.mem_of_getElem? (i := 12) rfl)) (hw _ (List.mem_of_getElem? (i := 6) rfl)) (by decide) (by decide)) q65a q65c (g := (mkF m 90 #[.val (.int p1), .val (.int (11 : Int32)), .val (.ref b1), .val (.ref w_MID_LETTER)] [(.ref w_MID_LETTER)])) rfl (by rw [hml]; rfl) (Steps.refl _) (argsL := []) (rest := []) (lenOf pd_rm0_1 rfl) rfl (by show 2 * 0 + _ ≤ _; exact Nat.le_of_eq rfl) (hb hby at_90) (fun _ _ => ⟨rfl, e64, (by decide : 1 + 0 ≤ _), (by decide : 16 + 0 ≤ _)⟩)
    dsimp only [Pt.U, Pt.locs, Pt.cells, Pt.slots] at X65 l65 y65 z65 st65 hQ65
    subst l65 y65 z65
    obtain ⟨rfl, N65q, e65⟩ := hQ65
    have N65 := Fr.app N64 N65q
    obtain ⟨cl66, Ar66, q66, S66, N66_, H66, G66⟩ := V17
    obtain ⟨fs, hr, hrun, hended, hW, hsame⟩ := X65.leave (v := some (.int (1 : Int32))) (fun h => by rw [Bd.returns] at h; cases h)
    refine ⟨_, _, pre63 _ ?_, hrun, hended, _, _, rfl, ?_, ⟨_, rfl⟩, hW, hsame.mono (by decide) (by decide)⟩
    · show Steps p.tables e below (T17.setTop (mkF m 84 #[.val (.int p1), .val (.int (11 : Int32)), .val (.ref b1), .unset] [])) _
      refine XS.iloadN X17.here hx rfl (hb hby at_84) rfl ?_
      show Steps p.tables e below (T17.setTop (mkF m 85 #[.val (.int p1), .val (.int (11 : Int32)), .val (.ref b1), .unset] [(.int (11 : Int32))])) _
      refine st64 _ ?_
      show Steps p.tables e below (T64.setTop (mkF m 88 #[.val (.int p1), .val (.int (11 : Int32)), .val (.ref b1), .unset] [(.ref w_MID_LETTER)])) _
      refine XS.astoreN X64.here hx rfl (hb hby at_88) rfl rfl (l' := #[.val (.int p1), .val (.int (11 : Int32)), .val (.ref b1), .val (.ref w_MID_LETTER)]) rfl ?_
      show Steps p.tables e below (T64.setTop (mkF m 89 #[.val (.int p1), .val (.int (11 : Int32)), .val (.ref b1), .val (.ref w_MID_LETTER)] [])) _
      refine XS.aloadN X64.here hx rfl (hb hby at_89) rfl rfl ?_
      show Steps p.tables e below (T64.setTop (mkF m 90 #[.val (.int p1), .val (.int (11 : Int32)), .val (.ref b1), .val (.ref w_MID_LETTER)] [(.ref w_MID_LETTER)])) _
      refine st65.trans ?_
      show Steps p.tables e below (T65.setTop (mkF m 93 #[.val (.int p1), .val (.int (11 : Int32)), .val (.ref b1), .val (.ref w_MID_LETTER)] [(.int (0 : Int32))])) _
      refine XS.aloadN X65.here hx rfl (hb hby at_93) rfl rfl ?_
      show Steps p.tables e below (T65.setTop (mkF m 94 #[.val (.int p1), .val (.int (11 : Int32)), .val (.ref b1), .val (.ref w_MID_LETTER)] [(.ref b1), (.int (0 : Int32))])) _
      refine XS.iloadN X65.here hx rfl (hb hby at_94) rfl ?_
      show Steps p.tables e below (T65.setTop (mkF m 95 #[.val (.int p1), .val (.int (11 : Int32)), .val (.ref b1), .val (.ref w_MID_LETTER)] [(.int (11 : Int32)), (.ref b1), (.int (0 : Int32))])) _
      refine X65.baloadBooleans hx (j := (11 : Int32)) (v := (.int (0 : Int32))) (by rw [e65]; exact Ar66.1) (State.isArrayOf_alike hZ.alike Ar66.2.1) Ar66.2.2 (inb_of S66 ⟨by decide, by decide⟩) (show cl66.slots[((11 : Int32)).toNatClampNeg]? = some (.int (0 : Int32)) from H66 11 (by rw [S66]; decide)) (g := (mkF m 95 #[.val (.int p1), .val (.int (11 : Int32)), .val (.ref b1), .val (.ref w_MID_LETTER)] [(.int (11 : Int32)), (.ref b1), (.int (0 : Int32))])) rfl rfl (hb hby at_95) _ ?_
      show Steps p.tables e below (T65.setTop (mkF m 96 #[.val (.int p1), .val (.int (11 : Int32)), .val (.ref b1), .val (.ref w_MID_LETTER)] [(.int (0 : Int32)), (.int (0 : Int32))])) _
      refine XS.icmpNo X65.here hx rfl (hb hby at_96) rfl (teq (rfl : (0 : Int32) = (0 : Int32))).2 ?_
      show Steps p.tables e below (T65.setTop (mkF m 99 #[.val (.int p1), .val (.int (11 : Int32)), .val (.ref b1), .val (.ref w_MID_LETTER)] [])) _
      refine XS.iconst X65.here hx rfl (hb hby at_99) ?_
      show Steps p.tables e below (T65.setTop (mkF m 100 #[.val (.int p1), .val (.int (11 : Int32)), .val (.ref b1), .val (.ref w_MID_LETTER)] [(.int (1 : Int32))])) _
      refine XS.goto X65.here hx rfl (pc0 := 100) (pc' := 104) rfl (hb hby at_100) (by decide) (by decide) ?_
      show Steps p.tables e below (T65.setTop (mkF m 104 #[.val (.int p1), .val (.int (11 : Int32)), .val (.ref b1), .val (.ref w_MID_LETTER)] [(.int (1 : Int32))])) _
      exact retN X65 hx (t := .boolean) Bd.returns (by simp) (hb hby at_104) hr
    · show Q_rm0 Z p1 w_OTHER w_NEWLINE w_EXTEND w_REGIONAL_INDICATOR w_W_SEG_SPACE w_A_LETTER w_HEBREW_LETTER w_NUMERIC w_KATAKANA w_EXTEND_NUM_LET w_SOUTHEAST_ASIAN w_MID_LETTER w_MID_NUM w_MID_NUM_LET w_SINGLE_QUOTE w_DOUBLE_QUOTE h0 n0 _ T65.heap _
      rw [e65]
      exact ⟨rfl, N65⟩
  · have pre67 : ∀ t, Steps p.tables e below (T17.setTop (mkF m 84 #[.val (.int p1), .val (.int (12 : Int32)), .val (.ref b1), .unset] [])) t → Steps p.tables e below (s₁.setTop (entryFrame m #[(.int p1)] maxLocals)) t := fun t k => pre18 t (by rw [hk]; exact k)
    obtain ⟨_, _, ⟨T68, L68, k68, n68⟩, -, X68, ⟨Lc68, hQ68, l68, y68, z68⟩, st68⟩ := Jvm.LawKit.callS X17 hx (y := (⟨"com/example/omomi/omomi/WordBreakIsBetweenDigitsPinLaw", "pick", "(I)Lcom/example/omomi/omomi/WordBreak;"⟩ : MethodName)) hown (mvT hZ (hw _ (List.mem_of_getElem? (i := 1) rfl))) (mvT hZ (hw _ (List.mem_of_getElem? (i := 2) rfl))) (mvT hZ (hw _ (List.mem_of_getElem? (i := 3) rfl))) (mvT hZ (hw _ (List.mem_of_getElem? (i := 4) rfl))) (by decide) (backOf (W := 0) (rm1 l Z a0 hw [] (12 : Int32) w_OTHER w_NEWLINE w_EXTEND w_REGIONAL_INDICATOR w_W_SEG_SPACE w_A_LETTER w_HEBREW_LETTER w_NUMERIC w_KATAKANA w_EXTEND_NUM_LET w_SOUTHEAST_ASIAN w_MID_LETTER w_MID_NUM w_MID_NUM_LET w_SINGLE_QUOTE w_DOUBLE_QUOTE w_MID_NUM h17 n0 Z1 S1_OTHER S1_NEWLINE S1_EXTEND S1_REGIONAL_INDICATOR S1_W_SEG_SPACE S1_A_LETTER S1_HEBREW_LETTER S1_NUMERIC S1_KATAKANA S1_EXTEND_NUM_LET S1_SOUTHEAST_ASIAN S1_MID_LETTER S1_MID_NUM S1_MID_NUM_LET S1_SINGLE_QUOTE S1_DOUBLE_QUOTE rfl) hZ (hw _ (List.mem_of_getElem? (i := 4) rfl)) (hw _ (List.mem_of_getElem? (i := 3) rfl)) (by decide) (by decide)) (g := (mkF m 85 #[.val (.int p1), .val (.int (12 : Int32)), .val (.ref b1), .unset] [(.int (12 : Int32))])) rfl (by rw [hml]; rfl) (argsL := [(.int (12 : Int32))]) (rest := []) (lenOf pd_rm0_0 rfl) rfl (by show 2 * 0 + _ ≤ _; exact Nat.le_of_eq rfl) (hb hby at_85) (fun _ _ => ⟨rfl, e17, (by decide : 1 + 0 ≤ _), (by decide : 16 + 0 ≤ _)⟩)
    dsimp only [Pt.U, Pt.locs, Pt.cells, Pt.slots] at X68 l68 y68 z68 st68 hQ68
    subst l68 y68 z68
    obtain ⟨rfl, N68q, e68⟩ := hQ68
    have N68 := Fr.app N17 N68q
    obtain ⟨cq69, kq69, q69a, q69b, q69c⟩ := isOf hZ e68 E1_MID_NUM
    obtain ⟨_, _, ⟨T69, L69, k69, n69⟩, -, X69, ⟨Lc69, hQ69, l69, y69, z69⟩, st69⟩ := X68.virtualBack hx (y := (⟨"com/example/omomi/omomi/WordBreak", "isBetweenDigits", "()Z"⟩ : MethodName)) (z := (⟨"com/example/omomi/omomi/WordBreak", "isBetweenDigits", "()Z"⟩ : MethodName)) hown (mvT hZ (hw _ (List.mem_of_getElem? (i := 8) rfl))) (mvT hZ (hw _ (List.mem_of_getElem? (i := 9) rfl))) (notFace_of_selects (args := #[]) (mvT hZ (hw _ (List.mem_of_getElem? (i := 11) rfl)))) (mvT hZ (hw _ (List.mem_of_getElem? (i := 11) rfl))) (mvT hZ (hw _ (List.mem_of_getElem? (i := 10) rfl))) (by decide) (backOf (W := 0) (rm2 l Z a0 hw [] w_MID_NUM w_MID_NUM w_MID_NUM_LET w_SINGLE_QUOTE (1 : Int32) h17 n0 Z1 S1_MID_NUM S1_MID_NUM_LET S1_SINGLE_QUOTE (by unfold betw; exact if_pos rfl)) hZ (hw _ (List.mem_of_getElem? (i := 12) rfl)) (hw _ (List.mem_of_getElem? (i := 6) rfl)) (by decide) (by decide)) q69a q69c (g := (mkF m 90 #[.val (.int p1), .val (.int (12 : Int32)), .val (.ref b1), .val (.ref w_MID_NUM)] [(.ref w_MID_NUM)])) rfl (by rw [hml]; rfl) (Steps.refl _) (argsL := []) (rest := []) (lenOf pd_rm0_1 rfl) rfl (by show 2 * 0 + _ ≤ _; exact Nat.le_of_eq rfl) (hb hby at_90) (fun _ _ => ⟨rfl, e68, (by decide : 1 + 0 ≤ _), (by decide : 16 + 0 ≤ _)⟩)
    dsimp only [Pt.U, Pt.locs, Pt.cells, Pt.slots] at X69 l69 y69 z69 st69 hQ69
    subst l69 y69 z69
    obtain ⟨rfl, N69q, e69⟩ := hQ69
    have N69 := Fr.app N68 N69q
    obtain ⟨cl70, Ar70, q70, S70, N70_, H70, G70⟩ := V17
    obtain ⟨fs, hr, hrun, hended, hW, hsame⟩ := X69.leave (v := some (.int (1 : Int32))) (fun h => by rw [Bd.returns] at h; cases h)
    refine ⟨_, _, pre67 _ ?_, hrun, hended, _, _, rfl, ?_, ⟨_, rfl⟩, hW, hsame.mono (by decide) (by decide)⟩
    · show Steps p.tables e below (T17.setTop (mkF m 84 #[.val (.int p1), .val (.int (12 : Int32)), .val (.ref b1), .unset] [])) _
      refine XS.iloadN X17.here hx rfl (hb hby at_84) rfl ?_
      show Steps p.tables e below (T17.setTop (mkF m 85 #[.val (.int p1), .val (.int (12 : Int32)), .val (.ref b1), .unset] [(.int (12 : Int32))])) _
      refine st68 _ ?_
      show Steps p.tables e below (T68.setTop (mkF m 88 #[.val (.int p1), .val (.int (12 : Int32)), .val (.ref b1), .unset] [(.ref w_MID_NUM)])) _
      refine XS.astoreN X68.here hx rfl (hb hby at_88) rfl rfl (l' := #[.val (.int p1), .val (.int (12 : Int32)), .val (.ref b1), .val (.ref w_MID_NUM)]) rfl ?_
      show Steps p.tables e below (T68.setTop (mkF m 89 #[.val (.int p1), .val (.int (12 : Int32)), .val (.ref b1), .val (.ref w_MID_NUM)] [])) _
      refine XS.aloadN X68.here hx rfl (hb hby at_89) rfl rfl ?_
      show Steps p.tables e below (T68.setTop (mkF m 90 #[.val (.int p1), .val (.int (12 : Int32)), .val (.ref b1), .val (.ref w_MID_NUM)] [(.ref w_MID_NUM)])) _
      refine st69.trans ?_
      show Steps p.tables e below (T69.setTop (mkF m 93 #[.val (.int p1), .val (.int (12 : Int32)), .val (.ref b1), .val (.ref w_MID_NUM)] [(.int (1 : Int32))])) _
      refine XS.aloadN X69.here hx rfl (hb hby at_93) rfl rfl ?_
      show Steps p.tables e below (T69.setTop (mkF m 94 #[.val (.int p1), .val (.int (12 : Int32)), .val (.ref b1), .val (.ref w_MID_NUM)] [(.ref b1), (.int (1 : Int32))])) _
      refine XS.iloadN X69.here hx rfl (hb hby at_94) rfl ?_
      show Steps p.tables e below (T69.setTop (mkF m 95 #[.val (.int p1), .val (.int (12 : Int32)), .val (.ref b1), .val (.ref w_MID_NUM)] [(.int (12 : Int32)), (.ref b1), (.int (1 : Int32))])) _
      refine X69.baloadBooleans hx (j := (12 : Int32)) (v := (.int (1 : Int32))) (by rw [e69]; exact Ar70.1) (State.isArrayOf_alike hZ.alike Ar70.2.1) Ar70.2.2 (inb_of S70 ⟨by decide, by decide⟩) (show cl70.slots[((12 : Int32)).toNatClampNeg]? = some (.int (1 : Int32)) from H70 12 (by rw [S70]; decide)) (g := (mkF m 95 #[.val (.int p1), .val (.int (12 : Int32)), .val (.ref b1), .val (.ref w_MID_NUM)] [(.int (12 : Int32)), (.ref b1), (.int (1 : Int32))])) rfl rfl (hb hby at_95) _ ?_
      show Steps p.tables e below (T69.setTop (mkF m 96 #[.val (.int p1), .val (.int (12 : Int32)), .val (.ref b1), .val (.ref w_MID_NUM)] [(.int (1 : Int32)), (.int (1 : Int32))])) _
      refine XS.icmpNo X69.here hx rfl (hb hby at_96) rfl (teq (rfl : (1 : Int32) = (1 : Int32))).2 ?_
      show Steps p.tables e below (T69.setTop (mkF m 99 #[.val (.int p1), .val (.int (12 : Int32)), .val (.ref b1), .val (.ref w_MID_NUM)] [])) _
      refine XS.iconst X69.here hx rfl (hb hby at_99) ?_
      show Steps p.tables e below (T69.setTop (mkF m 100 #[.val (.int p1), .val (.int (12 : Int32)), .val (.ref b1), .val (.ref w_MID_NUM)] [(.int (1 : Int32))])) _
      refine XS.goto X69.here hx rfl (pc0 := 100) (pc' := 104) rfl (hb hby at_100) (by decide) (by decide) ?_
      show Steps p.tables e below (T69.setTop (mkF m 104 #[.val (.int p1), .val (.int (12 : Int32)), .val (.ref b1), .val (.ref w_MID_NUM)] [(.int (1 : Int32))])) _
      exact retN X69 hx (t := .boolean) Bd.returns (by simp) (hb hby at_104) hr
    · show Q_rm0 Z p1 w_OTHER w_NEWLINE w_EXTEND w_REGIONAL_INDICATOR w_W_SEG_SPACE w_A_LETTER w_HEBREW_LETTER w_NUMERIC w_KATAKANA w_EXTEND_NUM_LET w_SOUTHEAST_ASIAN w_MID_LETTER w_MID_NUM w_MID_NUM_LET w_SINGLE_QUOTE w_DOUBLE_QUOTE h0 n0 _ T69.heap _
      rw [e69]
      exact ⟨rfl, N69⟩
  · have pre71 : ∀ t, Steps p.tables e below (T17.setTop (mkF m 84 #[.val (.int p1), .val (.int (13 : Int32)), .val (.ref b1), .unset] [])) t → Steps p.tables e below (s₁.setTop (entryFrame m #[(.int p1)] maxLocals)) t := fun t k => pre18 t (by rw [hk]; exact k)
    obtain ⟨_, _, ⟨T72, L72, k72, n72⟩, -, X72, ⟨Lc72, hQ72, l72, y72, z72⟩, st72⟩ := Jvm.LawKit.callS X17 hx (y := (⟨"com/example/omomi/omomi/WordBreakIsBetweenDigitsPinLaw", "pick", "(I)Lcom/example/omomi/omomi/WordBreak;"⟩ : MethodName)) hown (mvT hZ (hw _ (List.mem_of_getElem? (i := 1) rfl))) (mvT hZ (hw _ (List.mem_of_getElem? (i := 2) rfl))) (mvT hZ (hw _ (List.mem_of_getElem? (i := 3) rfl))) (mvT hZ (hw _ (List.mem_of_getElem? (i := 4) rfl))) (by decide) (backOf (W := 0) (rm1 l Z a0 hw [] (13 : Int32) w_OTHER w_NEWLINE w_EXTEND w_REGIONAL_INDICATOR w_W_SEG_SPACE w_A_LETTER w_HEBREW_LETTER w_NUMERIC w_KATAKANA w_EXTEND_NUM_LET w_SOUTHEAST_ASIAN w_MID_LETTER w_MID_NUM w_MID_NUM_LET w_SINGLE_QUOTE w_DOUBLE_QUOTE w_MID_NUM_LET h17 n0 Z1 S1_OTHER S1_NEWLINE S1_EXTEND S1_REGIONAL_INDICATOR S1_W_SEG_SPACE S1_A_LETTER S1_HEBREW_LETTER S1_NUMERIC S1_KATAKANA S1_EXTEND_NUM_LET S1_SOUTHEAST_ASIAN S1_MID_LETTER S1_MID_NUM S1_MID_NUM_LET S1_SINGLE_QUOTE S1_DOUBLE_QUOTE rfl) hZ (hw _ (List.mem_of_getElem? (i := 4) rfl)) (hw _ (List.mem_of_getElem? (i := 3) rfl)) (by decide) (by decide)) (g := (mkF m 85 #[.val (.int p1), .val (.int (13 : Int32)), .val (.ref b1), .unset] [(.int (13 : Int32))])) rfl (by rw [hml]; rfl) (argsL := [(.int (13 : Int32))]) (rest := []) (lenOf pd_rm0_0 rfl) rfl (by show 2 * 0 + _ ≤ _; exact Nat.le_of_eq rfl) (hb hby at_85) (fun _ _ => ⟨rfl, e17, (by decide : 1 + 0 ≤ _), (by decide : 16 + 0 ≤ _)⟩)
    dsimp only [Pt.U, Pt.locs, Pt.cells, Pt.slots] at X72 l72 y72 z72 st72 hQ72
    subst l72 y72 z72
    obtain ⟨rfl, N72q, e72⟩ := hQ72
    have N72 := Fr.app N17 N72q
    obtain ⟨cq73, kq73, q73a, q73b, q73c⟩ := isOf hZ e72 E1_MID_NUM_LET
    obtain ⟨_, _, ⟨T73, L73, k73, n73⟩, -, X73, ⟨Lc73, hQ73, l73, y73, z73⟩, st73⟩ := X72.virtualBack hx (y := (⟨"com/example/omomi/omomi/WordBreak", "isBetweenDigits", "()Z"⟩ : MethodName)) (z := (⟨"com/example/omomi/omomi/WordBreak", "isBetweenDigits", "()Z"⟩ : MethodName)) hown (mvT hZ (hw _ (List.mem_of_getElem? (i := 8) rfl))) (mvT hZ (hw _ (List.mem_of_getElem? (i := 9) rfl))) (notFace_of_selects (args := #[]) (mvT hZ (hw _ (List.mem_of_getElem? (i := 11) rfl)))) (mvT hZ (hw _ (List.mem_of_getElem? (i := 11) rfl))) (mvT hZ (hw _ (List.mem_of_getElem? (i := 10) rfl))) (by decide) (backOf (W := 0) (rm2 l Z a0 hw [] w_MID_NUM_LET w_MID_NUM w_MID_NUM_LET w_SINGLE_QUOTE (1 : Int32) h17 n0 Z1 S1_MID_NUM S1_MID_NUM_LET S1_SINGLE_QUOTE (by unfold betw; exact (if_neg n_MID_NUM_LET_MID_NUM).trans (if_pos rfl))) hZ (hw _ (List.mem_of_getElem? (i := 12) rfl)) (hw _ (List.mem_of_getElem? (i := 6) rfl)) (by decide) (by decide)) q73a q73c (g := (mkF m 90 #[.val (.int p1), .val (.int (13 : Int32)), .val (.ref b1), .val (.ref w_MID_NUM_LET)] [(.ref w_MID_NUM_LET)])) rfl (by rw [hml]; rfl) (Steps.refl _) (argsL := []) (rest := []) (lenOf pd_rm0_1 rfl) rfl (by show 2 * 0 + _ ≤ _; exact Nat.le_of_eq rfl) (hb hby at_90) (fun _ _ => ⟨rfl, e72, (by decide : 1 + 0 ≤ _), (by decide : 16 + 0 ≤ _)⟩)
    dsimp only [Pt.U, Pt.locs, Pt.cells, Pt.slots] at X73 l73 y73 z73 st73 hQ73
    subst l73 y73 z73
    obtain ⟨rfl, N73q, e73⟩ := hQ73
    have N73 := Fr.app N72 N73q
    obtain ⟨cl74, Ar74, q74, S74, N74_, H74, G74⟩ := V17
    obtain ⟨fs, hr, hrun, hended, hW, hsame⟩ := X73.leave (v := some (.int (1 : Int32))) (fun h => by rw [Bd.returns] at h; cases h)
    refine ⟨_, _, pre71 _ ?_, hrun, hended, _, _, rfl, ?_, ⟨_, rfl⟩, hW, hsame.mono (by decide) (by decide)⟩
    · show Steps p.tables e below (T17.setTop (mkF m 84 #[.val (.int p1), .val (.int (13 : Int32)), .val (.ref b1), .unset] [])) _
      refine XS.iloadN X17.here hx rfl (hb hby at_84) rfl ?_
      show Steps p.tables e below (T17.setTop (mkF m 85 #[.val (.int p1), .val (.int (13 : Int32)), .val (.ref b1), .unset] [(.int (13 : Int32))])) _
      refine st72 _ ?_
      show Steps p.tables e below (T72.setTop (mkF m 88 #[.val (.int p1), .val (.int (13 : Int32)), .val (.ref b1), .unset] [(.ref w_MID_NUM_LET)])) _
      refine XS.astoreN X72.here hx rfl (hb hby at_88) rfl rfl (l' := #[.val (.int p1), .val (.int (13 : Int32)), .val (.ref b1), .val (.ref w_MID_NUM_LET)]) rfl ?_
      show Steps p.tables e below (T72.setTop (mkF m 89 #[.val (.int p1), .val (.int (13 : Int32)), .val (.ref b1), .val (.ref w_MID_NUM_LET)] [])) _
      refine XS.aloadN X72.here hx rfl (hb hby at_89) rfl rfl ?_
      show Steps p.tables e below (T72.setTop (mkF m 90 #[.val (.int p1), .val (.int (13 : Int32)), .val (.ref b1), .val (.ref w_MID_NUM_LET)] [(.ref w_MID_NUM_LET)])) _
      refine st73.trans ?_
      show Steps p.tables e below (T73.setTop (mkF m 93 #[.val (.int p1), .val (.int (13 : Int32)), .val (.ref b1), .val (.ref w_MID_NUM_LET)] [(.int (1 : Int32))])) _
      refine XS.aloadN X73.here hx rfl (hb hby at_93) rfl rfl ?_
      show Steps p.tables e below (T73.setTop (mkF m 94 #[.val (.int p1), .val (.int (13 : Int32)), .val (.ref b1), .val (.ref w_MID_NUM_LET)] [(.ref b1), (.int (1 : Int32))])) _
      refine XS.iloadN X73.here hx rfl (hb hby at_94) rfl ?_
      show Steps p.tables e below (T73.setTop (mkF m 95 #[.val (.int p1), .val (.int (13 : Int32)), .val (.ref b1), .val (.ref w_MID_NUM_LET)] [(.int (13 : Int32)), (.ref b1), (.int (1 : Int32))])) _
      refine X73.baloadBooleans hx (j := (13 : Int32)) (v := (.int (1 : Int32))) (by rw [e73]; exact Ar74.1) (State.isArrayOf_alike hZ.alike Ar74.2.1) Ar74.2.2 (inb_of S74 ⟨by decide, by decide⟩) (show cl74.slots[((13 : Int32)).toNatClampNeg]? = some (.int (1 : Int32)) from H74 13 (by rw [S74]; decide)) (g := (mkF m 95 #[.val (.int p1), .val (.int (13 : Int32)), .val (.ref b1), .val (.ref w_MID_NUM_LET)] [(.int (13 : Int32)), (.ref b1), (.int (1 : Int32))])) rfl rfl (hb hby at_95) _ ?_
      show Steps p.tables e below (T73.setTop (mkF m 96 #[.val (.int p1), .val (.int (13 : Int32)), .val (.ref b1), .val (.ref w_MID_NUM_LET)] [(.int (1 : Int32)), (.int (1 : Int32))])) _
      refine XS.icmpNo X73.here hx rfl (hb hby at_96) rfl (teq (rfl : (1 : Int32) = (1 : Int32))).2 ?_
      show Steps p.tables e below (T73.setTop (mkF m 99 #[.val (.int p1), .val (.int (13 : Int32)), .val (.ref b1), .val (.ref w_MID_NUM_LET)] [])) _
      refine XS.iconst X73.here hx rfl (hb hby at_99) ?_
      show Steps p.tables e below (T73.setTop (mkF m 100 #[.val (.int p1), .val (.int (13 : Int32)), .val (.ref b1), .val (.ref w_MID_NUM_LET)] [(.int (1 : Int32))])) _
      refine XS.goto X73.here hx rfl (pc0 := 100) (pc' := 104) rfl (hb hby at_100) (by decide) (by decide) ?_
      show Steps p.tables e below (T73.setTop (mkF m 104 #[.val (.int p1), .val (.int (13 : Int32)), .val (.ref b1), .val (.ref w_MID_NUM_LET)] [(.int (1 : Int32))])) _
      exact retN X73 hx (t := .boolean) Bd.returns (by simp) (hb hby at_104) hr
    · show Q_rm0 Z p1 w_OTHER w_NEWLINE w_EXTEND w_REGIONAL_INDICATOR w_W_SEG_SPACE w_A_LETTER w_HEBREW_LETTER w_NUMERIC w_KATAKANA w_EXTEND_NUM_LET w_SOUTHEAST_ASIAN w_MID_LETTER w_MID_NUM w_MID_NUM_LET w_SINGLE_QUOTE w_DOUBLE_QUOTE h0 n0 _ T73.heap _
      rw [e73]
      exact ⟨rfl, N73⟩
  · have pre75 : ∀ t, Steps p.tables e below (T17.setTop (mkF m 84 #[.val (.int p1), .val (.int (14 : Int32)), .val (.ref b1), .unset] [])) t → Steps p.tables e below (s₁.setTop (entryFrame m #[(.int p1)] maxLocals)) t := fun t k => pre18 t (by rw [hk]; exact k)
    obtain ⟨_, _, ⟨T76, L76, k76, n76⟩, -, X76, ⟨Lc76, hQ76, l76, y76, z76⟩, st76⟩ := Jvm.LawKit.callS X17 hx (y := (⟨"com/example/omomi/omomi/WordBreakIsBetweenDigitsPinLaw", "pick", "(I)Lcom/example/omomi/omomi/WordBreak;"⟩ : MethodName)) hown (mvT hZ (hw _ (List.mem_of_getElem? (i := 1) rfl))) (mvT hZ (hw _ (List.mem_of_getElem? (i := 2) rfl))) (mvT hZ (hw _ (List.mem_of_getElem? (i := 3) rfl))) (mvT hZ (hw _ (List.mem_of_getElem? (i := 4) rfl))) (by decide) (backOf (W := 0) (rm1 l Z a0 hw [] (14 : Int32) w_OTHER w_NEWLINE w_EXTEND w_REGIONAL_INDICATOR w_W_SEG_SPACE w_A_LETTER w_HEBREW_LETTER w_NUMERIC w_KATAKANA w_EXTEND_NUM_LET w_SOUTHEAST_ASIAN w_MID_LETTER w_MID_NUM w_MID_NUM_LET w_SINGLE_QUOTE w_DOUBLE_QUOTE w_SINGLE_QUOTE h17 n0 Z1 S1_OTHER S1_NEWLINE S1_EXTEND S1_REGIONAL_INDICATOR S1_W_SEG_SPACE S1_A_LETTER S1_HEBREW_LETTER S1_NUMERIC S1_KATAKANA S1_EXTEND_NUM_LET S1_SOUTHEAST_ASIAN S1_MID_LETTER S1_MID_NUM S1_MID_NUM_LET S1_SINGLE_QUOTE S1_DOUBLE_QUOTE rfl) hZ (hw _ (List.mem_of_getElem? (i := 4) rfl)) (hw _ (List.mem_of_getElem? (i := 3) rfl)) (by decide) (by decide)) (g := (mkF m 85 #[.val (.int p1), .val (.int (14 : Int32)), .val (.ref b1), .unset] [(.int (14 : Int32))])) rfl (by rw [hml]; rfl) (argsL := [(.int (14 : Int32))]) (rest := []) (lenOf pd_rm0_0 rfl) rfl (by show 2 * 0 + _ ≤ _; exact Nat.le_of_eq rfl) (hb hby at_85) (fun _ _ => ⟨rfl, e17, (by decide : 1 + 0 ≤ _), (by decide : 16 + 0 ≤ _)⟩)
    dsimp only [Pt.U, Pt.locs, Pt.cells, Pt.slots] at X76 l76 y76 z76 st76 hQ76
    subst l76 y76 z76
    obtain ⟨rfl, N76q, e76⟩ := hQ76
    have N76 := Fr.app N17 N76q
    obtain ⟨cq77, kq77, q77a, q77b, q77c⟩ := isOf hZ e76 E1_SINGLE_QUOTE
    obtain ⟨_, _, ⟨T77, L77, k77, n77⟩, -, X77, ⟨Lc77, hQ77, l77, y77, z77⟩, st77⟩ := X76.virtualBack hx (y := (⟨"com/example/omomi/omomi/WordBreak", "isBetweenDigits", "()Z"⟩ : MethodName)) (z := (⟨"com/example/omomi/omomi/WordBreak", "isBetweenDigits", "()Z"⟩ : MethodName)) hown (mvT hZ (hw _ (List.mem_of_getElem? (i := 8) rfl))) (mvT hZ (hw _ (List.mem_of_getElem? (i := 9) rfl))) (notFace_of_selects (args := #[]) (mvT hZ (hw _ (List.mem_of_getElem? (i := 11) rfl)))) (mvT hZ (hw _ (List.mem_of_getElem? (i := 11) rfl))) (mvT hZ (hw _ (List.mem_of_getElem? (i := 10) rfl))) (by decide) (backOf (W := 0) (rm2 l Z a0 hw [] w_SINGLE_QUOTE w_MID_NUM w_MID_NUM_LET w_SINGLE_QUOTE (1 : Int32) h17 n0 Z1 S1_MID_NUM S1_MID_NUM_LET S1_SINGLE_QUOTE (by unfold betw; exact (if_neg n_SINGLE_QUOTE_MID_NUM).trans ((if_neg n_SINGLE_QUOTE_MID_NUM_LET).trans (if_pos rfl)))) hZ (hw _ (List.mem_of_getElem? (i := 12) rfl)) (hw _ (List.mem_of_getElem? (i := 6) rfl)) (by decide) (by decide)) q77a q77c (g := (mkF m 90 #[.val (.int p1), .val (.int (14 : Int32)), .val (.ref b1), .val (.ref w_SINGLE_QUOTE)] [(.ref w_SINGLE_QUOTE)])) rfl (by rw [hml]; rfl) (Steps.refl _) (argsL := []) (rest := []) (lenOf pd_rm0_1 rfl) rfl (by show 2 * 0 + _ ≤ _; exact Nat.le_of_eq rfl) (hb hby at_90) (fun _ _ => ⟨rfl, e76, (by decide : 1 + 0 ≤ _), (by decide : 16 + 0 ≤ _)⟩)
    dsimp only [Pt.U, Pt.locs, Pt.cells, Pt.slots] at X77 l77 y77 z77 st77 hQ77
    subst l77 y77 z77
    obtain ⟨rfl, N77q, e77⟩ := hQ77
    have N77 := Fr.app N76 N77q
    obtain ⟨cl78, Ar78, q78, S78, N78_, H78, G78⟩ := V17
    obtain ⟨fs, hr, hrun, hended, hW, hsame⟩ := X77.leave (v := some (.int (1 : Int32))) (fun h => by rw [Bd.returns] at h; cases h)
    refine ⟨_, _, pre75 _ ?_, hrun, hended, _, _, rfl, ?_, ⟨_, rfl⟩, hW, hsame.mono (by decide) (by decide)⟩
    · show Steps p.tables e below (T17.setTop (mkF m 84 #[.val (.int p1), .val (.int (14 : Int32)), .val (.ref b1), .unset] [])) _
      refine XS.iloadN X17.here hx rfl (hb hby at_84) rfl ?_
      show Steps p.tables e below (T17.setTop (mkF m 85 #[.val (.int p1), .val (.int (14 : Int32)), .val (.ref b1), .unset] [(.int (14 : Int32))])) _
      refine st76 _ ?_
      show Steps p.tables e below (T76.setTop (mkF m 88 #[.val (.int p1), .val (.int (14 : Int32)), .val (.ref b1), .unset] [(.ref w_SINGLE_QUOTE)])) _
      refine XS.astoreN X76.here hx rfl (hb hby at_88) rfl rfl (l' := #[.val (.int p1), .val (.int (14 : Int32)), .val (.ref b1), .val (.ref w_SINGLE_QUOTE)]) rfl ?_
      show Steps p.tables e below (T76.setTop (mkF m 89 #[.val (.int p1), .val (.int (14 : Int32)), .val (.ref b1), .val (.ref w_SINGLE_QUOTE)] [])) _
      refine XS.aloadN X76.here hx rfl (hb hby at_89) rfl rfl ?_
      show Steps p.tables e below (T76.setTop (mkF m 90 #[.val (.int p1), .val (.int (14 : Int32)), .val (.ref b1), .val (.ref w_SINGLE_QUOTE)] [(.ref w_SINGLE_QUOTE)])) _
      refine st77.trans ?_
      show Steps p.tables e below (T77.setTop (mkF m 93 #[.val (.int p1), .val (.int (14 : Int32)), .val (.ref b1), .val (.ref w_SINGLE_QUOTE)] [(.int (1 : Int32))])) _
      refine XS.aloadN X77.here hx rfl (hb hby at_93) rfl rfl ?_
      show Steps p.tables e below (T77.setTop (mkF m 94 #[.val (.int p1), .val (.int (14 : Int32)), .val (.ref b1), .val (.ref w_SINGLE_QUOTE)] [(.ref b1), (.int (1 : Int32))])) _
      refine XS.iloadN X77.here hx rfl (hb hby at_94) rfl ?_
      show Steps p.tables e below (T77.setTop (mkF m 95 #[.val (.int p1), .val (.int (14 : Int32)), .val (.ref b1), .val (.ref w_SINGLE_QUOTE)] [(.int (14 : Int32)), (.ref b1), (.int (1 : Int32))])) _
      refine X77.baloadBooleans hx (j := (14 : Int32)) (v := (.int (1 : Int32))) (by rw [e77]; exact Ar78.1) (State.isArrayOf_alike hZ.alike Ar78.2.1) Ar78.2.2 (inb_of S78 ⟨by decide, by decide⟩) (show cl78.slots[((14 : Int32)).toNatClampNeg]? = some (.int (1 : Int32)) from H78 14 (by rw [S78]; decide)) (g := (mkF m 95 #[.val (.int p1), .val (.int (14 : Int32)), .val (.ref b1), .val (.ref w_SINGLE_QUOTE)] [(.int (14 : Int32)), (.ref b1), (.int (1 : Int32))])) rfl rfl (hb hby at_95) _ ?_
      show Steps p.tables e below (T77.setTop (mkF m 96 #[.val (.int p1), .val (.int (14 : Int32)), .val (.ref b1), .val (.ref w_SINGLE_QUOTE)] [(.int (1 : Int32)), (.int (1 : Int32))])) _
      refine XS.icmpNo X77.here hx rfl (hb hby at_96) rfl (teq (rfl : (1 : Int32) = (1 : Int32))).2 ?_
      show Steps p.tables e below (T77.setTop (mkF m 99 #[.val (.int p1), .val (.int (14 : Int32)), .val (.ref b1), .val (.ref w_SINGLE_QUOTE)] [])) _
      refine XS.iconst X77.here hx rfl (hb hby at_99) ?_
      show Steps p.tables e below (T77.setTop (mkF m 100 #[.val (.int p1), .val (.int (14 : Int32)), .val (.ref b1), .val (.ref w_SINGLE_QUOTE)] [(.int (1 : Int32))])) _
      refine XS.goto X77.here hx rfl (pc0 := 100) (pc' := 104) rfl (hb hby at_100) (by decide) (by decide) ?_
      show Steps p.tables e below (T77.setTop (mkF m 104 #[.val (.int p1), .val (.int (14 : Int32)), .val (.ref b1), .val (.ref w_SINGLE_QUOTE)] [(.int (1 : Int32))])) _
      exact retN X77 hx (t := .boolean) Bd.returns (by simp) (hb hby at_104) hr
    · show Q_rm0 Z p1 w_OTHER w_NEWLINE w_EXTEND w_REGIONAL_INDICATOR w_W_SEG_SPACE w_A_LETTER w_HEBREW_LETTER w_NUMERIC w_KATAKANA w_EXTEND_NUM_LET w_SOUTHEAST_ASIAN w_MID_LETTER w_MID_NUM w_MID_NUM_LET w_SINGLE_QUOTE w_DOUBLE_QUOTE h0 n0 _ T77.heap _
      rw [e77]
      exact ⟨rfl, N77⟩
  · have pre79 : ∀ t, Steps p.tables e below (T17.setTop (mkF m 84 #[.val (.int p1), .val (.int (15 : Int32)), .val (.ref b1), .unset] [])) t → Steps p.tables e below (s₁.setTop (entryFrame m #[(.int p1)] maxLocals)) t := fun t k => pre18 t (by rw [hk]; exact k)
    obtain ⟨_, _, ⟨T80, L80, k80, n80⟩, -, X80, ⟨Lc80, hQ80, l80, y80, z80⟩, st80⟩ := Jvm.LawKit.callS X17 hx (y := (⟨"com/example/omomi/omomi/WordBreakIsBetweenDigitsPinLaw", "pick", "(I)Lcom/example/omomi/omomi/WordBreak;"⟩ : MethodName)) hown (mvT hZ (hw _ (List.mem_of_getElem? (i := 1) rfl))) (mvT hZ (hw _ (List.mem_of_getElem? (i := 2) rfl))) (mvT hZ (hw _ (List.mem_of_getElem? (i := 3) rfl))) (mvT hZ (hw _ (List.mem_of_getElem? (i := 4) rfl))) (by decide) (backOf (W := 0) (rm1 l Z a0 hw [] (15 : Int32) w_OTHER w_NEWLINE w_EXTEND w_REGIONAL_INDICATOR w_W_SEG_SPACE w_A_LETTER w_HEBREW_LETTER w_NUMERIC w_KATAKANA w_EXTEND_NUM_LET w_SOUTHEAST_ASIAN w_MID_LETTER w_MID_NUM w_MID_NUM_LET w_SINGLE_QUOTE w_DOUBLE_QUOTE w_DOUBLE_QUOTE h17 n0 Z1 S1_OTHER S1_NEWLINE S1_EXTEND S1_REGIONAL_INDICATOR S1_W_SEG_SPACE S1_A_LETTER S1_HEBREW_LETTER S1_NUMERIC S1_KATAKANA S1_EXTEND_NUM_LET S1_SOUTHEAST_ASIAN S1_MID_LETTER S1_MID_NUM S1_MID_NUM_LET S1_SINGLE_QUOTE S1_DOUBLE_QUOTE rfl) hZ (hw _ (List.mem_of_getElem? (i := 4) rfl)) (hw _ (List.mem_of_getElem? (i := 3) rfl)) (by decide) (by decide)) (g := (mkF m 85 #[.val (.int p1), .val (.int (15 : Int32)), .val (.ref b1), .unset] [(.int (15 : Int32))])) rfl (by rw [hml]; rfl) (argsL := [(.int (15 : Int32))]) (rest := []) (lenOf pd_rm0_0 rfl) rfl (by show 2 * 0 + _ ≤ _; exact Nat.le_of_eq rfl) (hb hby at_85) (fun _ _ => ⟨rfl, e17, (by decide : 1 + 0 ≤ _), (by decide : 16 + 0 ≤ _)⟩)
    dsimp only [Pt.U, Pt.locs, Pt.cells, Pt.slots] at X80 l80 y80 z80 st80 hQ80
    subst l80 y80 z80
    obtain ⟨rfl, N80q, e80⟩ := hQ80
    have N80 := Fr.app N17 N80q
    obtain ⟨cq81, kq81, q81a, q81b, q81c⟩ := isOf hZ e80 E1_DOUBLE_QUOTE
    obtain ⟨_, _, ⟨T81, L81, k81, n81⟩, -, X81, ⟨Lc81, hQ81, l81, y81, z81⟩, st81⟩ := X80.virtualBack hx (y := (⟨"com/example/omomi/omomi/WordBreak", "isBetweenDigits", "()Z"⟩ : MethodName)) (z := (⟨"com/example/omomi/omomi/WordBreak", "isBetweenDigits", "()Z"⟩ : MethodName)) hown (mvT hZ (hw _ (List.mem_of_getElem? (i := 8) rfl))) (mvT hZ (hw _ (List.mem_of_getElem? (i := 9) rfl))) (notFace_of_selects (args := #[]) (mvT hZ (hw _ (List.mem_of_getElem? (i := 11) rfl)))) (mvT hZ (hw _ (List.mem_of_getElem? (i := 11) rfl))) (mvT hZ (hw _ (List.mem_of_getElem? (i := 10) rfl))) (by decide) (backOf (W := 0) (rm2 l Z a0 hw [] w_DOUBLE_QUOTE w_MID_NUM w_MID_NUM_LET w_SINGLE_QUOTE (0 : Int32) h17 n0 Z1 S1_MID_NUM S1_MID_NUM_LET S1_SINGLE_QUOTE (by unfold betw; exact (if_neg n_DOUBLE_QUOTE_MID_NUM).trans ((if_neg n_DOUBLE_QUOTE_MID_NUM_LET).trans (if_neg n_DOUBLE_QUOTE_SINGLE_QUOTE)))) hZ (hw _ (List.mem_of_getElem? (i := 12) rfl)) (hw _ (List.mem_of_getElem? (i := 6) rfl)) (by decide) (by decide)) q81a q81c (g := (mkF m 90 #[.val (.int p1), .val (.int (15 : Int32)), .val (.ref b1), .val (.ref w_DOUBLE_QUOTE)] [(.ref w_DOUBLE_QUOTE)])) rfl (by rw [hml]; rfl) (Steps.refl _) (argsL := []) (rest := []) (lenOf pd_rm0_1 rfl) rfl (by show 2 * 0 + _ ≤ _; exact Nat.le_of_eq rfl) (hb hby at_90) (fun _ _ => ⟨rfl, e80, (by decide : 1 + 0 ≤ _), (by decide : 16 + 0 ≤ _)⟩)
    dsimp only [Pt.U, Pt.locs, Pt.cells, Pt.slots] at X81 l81 y81 z81 st81 hQ81
    subst l81 y81 z81
    obtain ⟨rfl, N81q, e81⟩ := hQ81
    have N81 := Fr.app N80 N81q
    obtain ⟨cl82, Ar82, q82, S82, N82_, H82, G82⟩ := V17
    obtain ⟨fs, hr, hrun, hended, hW, hsame⟩ := X81.leave (v := some (.int (1 : Int32))) (fun h => by rw [Bd.returns] at h; cases h)
    refine ⟨_, _, pre79 _ ?_, hrun, hended, _, _, rfl, ?_, ⟨_, rfl⟩, hW, hsame.mono (by decide) (by decide)⟩
    · show Steps p.tables e below (T17.setTop (mkF m 84 #[.val (.int p1), .val (.int (15 : Int32)), .val (.ref b1), .unset] [])) _
      refine XS.iloadN X17.here hx rfl (hb hby at_84) rfl ?_
      show Steps p.tables e below (T17.setTop (mkF m 85 #[.val (.int p1), .val (.int (15 : Int32)), .val (.ref b1), .unset] [(.int (15 : Int32))])) _
      refine st80 _ ?_
      show Steps p.tables e below (T80.setTop (mkF m 88 #[.val (.int p1), .val (.int (15 : Int32)), .val (.ref b1), .unset] [(.ref w_DOUBLE_QUOTE)])) _
      refine XS.astoreN X80.here hx rfl (hb hby at_88) rfl rfl (l' := #[.val (.int p1), .val (.int (15 : Int32)), .val (.ref b1), .val (.ref w_DOUBLE_QUOTE)]) rfl ?_
      show Steps p.tables e below (T80.setTop (mkF m 89 #[.val (.int p1), .val (.int (15 : Int32)), .val (.ref b1), .val (.ref w_DOUBLE_QUOTE)] [])) _
      refine XS.aloadN X80.here hx rfl (hb hby at_89) rfl rfl ?_
      show Steps p.tables e below (T80.setTop (mkF m 90 #[.val (.int p1), .val (.int (15 : Int32)), .val (.ref b1), .val (.ref w_DOUBLE_QUOTE)] [(.ref w_DOUBLE_QUOTE)])) _
      refine st81.trans ?_
      show Steps p.tables e below (T81.setTop (mkF m 93 #[.val (.int p1), .val (.int (15 : Int32)), .val (.ref b1), .val (.ref w_DOUBLE_QUOTE)] [(.int (0 : Int32))])) _
      refine XS.aloadN X81.here hx rfl (hb hby at_93) rfl rfl ?_
      show Steps p.tables e below (T81.setTop (mkF m 94 #[.val (.int p1), .val (.int (15 : Int32)), .val (.ref b1), .val (.ref w_DOUBLE_QUOTE)] [(.ref b1), (.int (0 : Int32))])) _
      refine XS.iloadN X81.here hx rfl (hb hby at_94) rfl ?_
      show Steps p.tables e below (T81.setTop (mkF m 95 #[.val (.int p1), .val (.int (15 : Int32)), .val (.ref b1), .val (.ref w_DOUBLE_QUOTE)] [(.int (15 : Int32)), (.ref b1), (.int (0 : Int32))])) _
      refine X81.baloadBooleans hx (j := (15 : Int32)) (v := (.int (0 : Int32))) (by rw [e81]; exact Ar82.1) (State.isArrayOf_alike hZ.alike Ar82.2.1) Ar82.2.2 (inb_of S82 ⟨by decide, by decide⟩) (show cl82.slots[((15 : Int32)).toNatClampNeg]? = some (.int (0 : Int32)) from H82 15 (by rw [S82]; decide)) (g := (mkF m 95 #[.val (.int p1), .val (.int (15 : Int32)), .val (.ref b1), .val (.ref w_DOUBLE_QUOTE)] [(.int (15 : Int32)), (.ref b1), (.int (0 : Int32))])) rfl rfl (hb hby at_95) _ ?_
      show Steps p.tables e below (T81.setTop (mkF m 96 #[.val (.int p1), .val (.int (15 : Int32)), .val (.ref b1), .val (.ref w_DOUBLE_QUOTE)] [(.int (0 : Int32)), (.int (0 : Int32))])) _
      refine XS.icmpNo X81.here hx rfl (hb hby at_96) rfl (teq (rfl : (0 : Int32) = (0 : Int32))).2 ?_
      show Steps p.tables e below (T81.setTop (mkF m 99 #[.val (.int p1), .val (.int (15 : Int32)), .val (.ref b1), .val (.ref w_DOUBLE_QUOTE)] [])) _
      refine XS.iconst X81.here hx rfl (hb hby at_99) ?_
      show Steps p.tables e below (T81.setTop (mkF m 100 #[.val (.int p1), .val (.int (15 : Int32)), .val (.ref b1), .val (.ref w_DOUBLE_QUOTE)] [(.int (1 : Int32))])) _
      refine XS.goto X81.here hx rfl (pc0 := 100) (pc' := 104) rfl (hb hby at_100) (by decide) (by decide) ?_
      show Steps p.tables e below (T81.setTop (mkF m 104 #[.val (.int p1), .val (.int (15 : Int32)), .val (.ref b1), .val (.ref w_DOUBLE_QUOTE)] [(.int (1 : Int32))])) _
      exact retN X81 hx (t := .boolean) Bd.returns (by simp) (hb hby at_104) hr
    · show Q_rm0 Z p1 w_OTHER w_NEWLINE w_EXTEND w_REGIONAL_INDICATOR w_W_SEG_SPACE w_A_LETTER w_HEBREW_LETTER w_NUMERIC w_KATAKANA w_EXTEND_NUM_LET w_SOUTHEAST_ASIAN w_MID_LETTER w_MID_NUM w_MID_NUM_LET w_SINGLE_QUOTE w_DOUBLE_QUOTE h0 n0 _ T81.heap _
      rw [e81]
      exact ⟨rfl, N81⟩
set_option maxRecDepth 65536 in
set_option maxHeartbeats 40000000 in
theorem comes_1 {Post : Tables → Env → Array Value → State → Outcome → State → Prop} (hpost : ∀ tb e args s v u, (limb_1_1.after args s (.returned v) u = true ∧ limb_1_2.after args s (.returned v) u = true ∧ True) → FrameEnd s (.returned v) u (Jvm.fieldLocs frame_1_writes args s ++ Jvm.arrayLocs frame_1_arrays args s ++ Jvm.staticLocs frame_1_statics s) 16 128 → Post tb e args s (.returned v) u) :
    ArmFor flags0 classFile x code maxLocals ret World_1 tables_1 room_1 Calls_1 rest_1 Pre_1 Post := by
  intro l hfl _ _ p e ha hc hk s m args below hf hA hF happ hP
  obtain ⟨hcalls, hrest, hpre⟩ := hP
  obtain ⟨-, -, -, hnamed, -, -, -, hat⟩ := (Spec.applies_iff hf).mp happ
  obtain ⟨hg, hn⟩ := and_e (Cond.before_iff.mp (show (Jvm.Cond.and given_1 narrow_1).before args s = true from hpre))
  obtain ⟨hcount, hgs⟩ := and_e hg
  obtain ⟨w0, rfl⟩ : ∃ w0 : Value, args = #[w0] := by
    have hs : args.size = 1 := by simpa [Cond.value, given_1] using hcount
    obtain ⟨L⟩ := args
    match L, hs with
    | [w0], _ => exact ⟨w0, rfl⟩
  have hw := fun d (hd : d ∈ tables_1) => atoms_spec (ws := Jvm.Cond.code x code maxLocals ret :: tables_1) hat d (List.mem_cons_of_mem _ hd)
  have hfit : Fit s := fun {y c} hc i hi => by
    obtain ⟨ha, rfl⟩ := Array.getElem?_eq_some_iff.mp hc
    have q := List.all_eq_true.mp ((Array.all_eq_true_iff_forall_mem.mp hF) _ (Array.getElem_mem ha)) i (List.mem_range.mpr hi)
    simpa [Array.getElem?_eq_getElem hi] using q
  obtain ⟨i0, ei0⟩ := is_v hgs
  obtain rfl : w0 = (.int i0) := Option.some.inj ei0
  obtain ⟨c0, hr_0⟩ := and_e hn
  obtain ⟨c1, hr_1⟩ := and_e hr_0
  obtain ⟨c2, hr_2⟩ := and_e hr_1
  obtain ⟨c3, hr_3⟩ := and_e hr_2
  obtain ⟨c4, hr_4⟩ := and_e hr_3
  obtain ⟨c5, hr_5⟩ := and_e hr_4
  obtain ⟨c6, hr_6⟩ := and_e hr_5
  obtain ⟨c7, hr_7⟩ := and_e hr_6
  obtain ⟨c8, hr_8⟩ := and_e hr_7
  obtain ⟨c9, hr_9⟩ := and_e hr_8
  obtain ⟨c10, hr_10⟩ := and_e hr_9
  obtain ⟨c11, hr_11⟩ := and_e hr_10
  obtain ⟨c12, hr_12⟩ := and_e hr_11
  obtain ⟨c13, hr_13⟩ := and_e hr_12
  obtain ⟨c14, hr_14⟩ := and_e hr_13
  obtain ⟨c15, hr_15⟩ := and_e hr_14
  obtain ⟨c16, hr_16⟩ := and_e hr_15
  obtain ⟨c17, hr_17⟩ := and_e hr_16
  obtain ⟨c18, hr_18⟩ := and_e hr_17
  obtain ⟨c19, hr_19⟩ := and_e hr_18
  obtain ⟨c20, hr_20⟩ := and_e hr_19
  obtain ⟨c21, hr_21⟩ := and_e hr_20
  obtain ⟨c22, hr_22⟩ := and_e hr_21
  obtain ⟨c23, hr_23⟩ := and_e hr_22
  obtain ⟨c24, hr_24⟩ := and_e hr_23
  obtain ⟨c25, hr_25⟩ := and_e hr_24
  obtain ⟨c26, hr_26⟩ := and_e hr_25
  obtain ⟨c27, hr_27⟩ := and_e hr_26
  obtain ⟨c28, hr_28⟩ := and_e hr_27
  obtain ⟨c29, hr_29⟩ := and_e hr_28
  obtain ⟨c30, hr_30⟩ := and_e hr_29
  have c31 := hr_30
  obtain ⟨w_OTHER, ev_OTHER⟩ := exa_v c0
  have S_OTHER : Sta s s.heap "com/example/omomi/omomi/WordBreak" "OTHER" "Lcom/example/omomi/omomi/WordBreak;" (.ref w_OTHER) := Sta.start ev_OTHER (Or.inr ⟨(hw _ (List.mem_of_getElem? (i := 6) rfl)), (hw _ (List.mem_of_getElem? (i := 7) rfl))⟩)
  have E_OTHER : Exa s s.heap w_OTHER "com/example/omomi/omomi/WordBreak" := Exa.start ev_OTHER c0
  obtain ⟨w_MID_NUM, ev_MID_NUM⟩ := exa_v c1
  have S_MID_NUM : Sta s s.heap "com/example/omomi/omomi/WordBreak" "MID_NUM" "Lcom/example/omomi/omomi/WordBreak;" (.ref w_MID_NUM) := Sta.start ev_MID_NUM (Or.inr ⟨(hw _ (List.mem_of_getElem? (i := 6) rfl)), (hw _ (List.mem_of_getElem? (i := 14) rfl))⟩)
  have E_MID_NUM : Exa s s.heap w_MID_NUM "com/example/omomi/omomi/WordBreak" := Exa.start ev_MID_NUM c1
  obtain ⟨w_MID_NUM_LET, ev_MID_NUM_LET⟩ := exa_v c4
  have S_MID_NUM_LET : Sta s s.heap "com/example/omomi/omomi/WordBreak" "MID_NUM_LET" "Lcom/example/omomi/omomi/WordBreak;" (.ref w_MID_NUM_LET) := Sta.start ev_MID_NUM_LET (Or.inr ⟨(hw _ (List.mem_of_getElem? (i := 6) rfl)), (hw _ (List.mem_of_getElem? (i := 16) rfl))⟩)
  have E_MID_NUM_LET : Exa s s.heap w_MID_NUM_LET "com/example/omomi/omomi/WordBreak" := Exa.start ev_MID_NUM_LET c4
  obtain ⟨w_SINGLE_QUOTE, ev_SINGLE_QUOTE⟩ := exa_v c6
  have S_SINGLE_QUOTE : Sta s s.heap "com/example/omomi/omomi/WordBreak" "SINGLE_QUOTE" "Lcom/example/omomi/omomi/WordBreak;" (.ref w_SINGLE_QUOTE) := Sta.start ev_SINGLE_QUOTE (Or.inr ⟨(hw _ (List.mem_of_getElem? (i := 6) rfl)), (hw _ (List.mem_of_getElem? (i := 18) rfl))⟩)
  have E_SINGLE_QUOTE : Exa s s.heap w_SINGLE_QUOTE "com/example/omomi/omomi/WordBreak" := Exa.start ev_SINGLE_QUOTE c6
  obtain ⟨w_REGIONAL_INDICATOR, ev_REGIONAL_INDICATOR⟩ := exa_v c8
  have S_REGIONAL_INDICATOR : Sta s s.heap "com/example/omomi/omomi/WordBreak" "REGIONAL_INDICATOR" "Lcom/example/omomi/omomi/WordBreak;" (.ref w_REGIONAL_INDICATOR) := Sta.start ev_REGIONAL_INDICATOR (Or.inr ⟨(hw _ (List.mem_of_getElem? (i := 6) rfl)), (hw _ (List.mem_of_getElem? (i := 20) rfl))⟩)
  have E_REGIONAL_INDICATOR : Exa s s.heap w_REGIONAL_INDICATOR "com/example/omomi/omomi/WordBreak" := Exa.start ev_REGIONAL_INDICATOR c8
  obtain ⟨w_DOUBLE_QUOTE, ev_DOUBLE_QUOTE⟩ := exa_v c10
  have S_DOUBLE_QUOTE : Sta s s.heap "com/example/omomi/omomi/WordBreak" "DOUBLE_QUOTE" "Lcom/example/omomi/omomi/WordBreak;" (.ref w_DOUBLE_QUOTE) := Sta.start ev_DOUBLE_QUOTE (Or.inr ⟨(hw _ (List.mem_of_getElem? (i := 6) rfl)), (hw _ (List.mem_of_getElem? (i := 23) rfl))⟩)
  have E_DOUBLE_QUOTE : Exa s s.heap w_DOUBLE_QUOTE "com/example/omomi/omomi/WordBreak" := Exa.start ev_DOUBLE_QUOTE c10
  obtain ⟨w_SOUTHEAST_ASIAN, ev_SOUTHEAST_ASIAN⟩ := exa_v c12
  have S_SOUTHEAST_ASIAN : Sta s s.heap "com/example/omomi/omomi/WordBreak" "SOUTHEAST_ASIAN" "Lcom/example/omomi/omomi/WordBreak;" (.ref w_SOUTHEAST_ASIAN) := Sta.start ev_SOUTHEAST_ASIAN (Or.inr ⟨(hw _ (List.mem_of_getElem? (i := 6) rfl)), (hw _ (List.mem_of_getElem? (i := 25) rfl))⟩)
  have E_SOUTHEAST_ASIAN : Exa s s.heap w_SOUTHEAST_ASIAN "com/example/omomi/omomi/WordBreak" := Exa.start ev_SOUTHEAST_ASIAN c12
  obtain ⟨w_NUMERIC, ev_NUMERIC⟩ := exa_v c14
  have S_NUMERIC : Sta s s.heap "com/example/omomi/omomi/WordBreak" "NUMERIC" "Lcom/example/omomi/omomi/WordBreak;" (.ref w_NUMERIC) := Sta.start ev_NUMERIC (Or.inr ⟨(hw _ (List.mem_of_getElem? (i := 6) rfl)), (hw _ (List.mem_of_getElem? (i := 27) rfl))⟩)
  have E_NUMERIC : Exa s s.heap w_NUMERIC "com/example/omomi/omomi/WordBreak" := Exa.start ev_NUMERIC c14
  obtain ⟨w_EXTEND, ev_EXTEND⟩ := exa_v c16
  have S_EXTEND : Sta s s.heap "com/example/omomi/omomi/WordBreak" "EXTEND" "Lcom/example/omomi/omomi/WordBreak;" (.ref w_EXTEND) := Sta.start ev_EXTEND (Or.inr ⟨(hw _ (List.mem_of_getElem? (i := 6) rfl)), (hw _ (List.mem_of_getElem? (i := 29) rfl))⟩)
  have E_EXTEND : Exa s s.heap w_EXTEND "com/example/omomi/omomi/WordBreak" := Exa.start ev_EXTEND c16
  obtain ⟨w_MID_LETTER, ev_MID_LETTER⟩ := exa_v c18
  have S_MID_LETTER : Sta s s.heap "com/example/omomi/omomi/WordBreak" "MID_LETTER" "Lcom/example/omomi/omomi/WordBreak;" (.ref w_MID_LETTER) := Sta.start ev_MID_LETTER (Or.inr ⟨(hw _ (List.mem_of_getElem? (i := 6) rfl)), (hw _ (List.mem_of_getElem? (i := 31) rfl))⟩)
  have E_MID_LETTER : Exa s s.heap w_MID_LETTER "com/example/omomi/omomi/WordBreak" := Exa.start ev_MID_LETTER c18
  obtain ⟨w_KATAKANA, ev_KATAKANA⟩ := exa_v c20
  have S_KATAKANA : Sta s s.heap "com/example/omomi/omomi/WordBreak" "KATAKANA" "Lcom/example/omomi/omomi/WordBreak;" (.ref w_KATAKANA) := Sta.start ev_KATAKANA (Or.inr ⟨(hw _ (List.mem_of_getElem? (i := 6) rfl)), (hw _ (List.mem_of_getElem? (i := 33) rfl))⟩)
  have E_KATAKANA : Exa s s.heap w_KATAKANA "com/example/omomi/omomi/WordBreak" := Exa.start ev_KATAKANA c20
  obtain ⟨w_NEWLINE, ev_NEWLINE⟩ := exa_v c22
  have S_NEWLINE : Sta s s.heap "com/example/omomi/omomi/WordBreak" "NEWLINE" "Lcom/example/omomi/omomi/WordBreak;" (.ref w_NEWLINE) := Sta.start ev_NEWLINE (Or.inr ⟨(hw _ (List.mem_of_getElem? (i := 6) rfl)), (hw _ (List.mem_of_getElem? (i := 35) rfl))⟩)
  have E_NEWLINE : Exa s s.heap w_NEWLINE "com/example/omomi/omomi/WordBreak" := Exa.start ev_NEWLINE c22
  obtain ⟨w_W_SEG_SPACE, ev_W_SEG_SPACE⟩ := exa_v c24
  have S_W_SEG_SPACE : Sta s s.heap "com/example/omomi/omomi/WordBreak" "W_SEG_SPACE" "Lcom/example/omomi/omomi/WordBreak;" (.ref w_W_SEG_SPACE) := Sta.start ev_W_SEG_SPACE (Or.inr ⟨(hw _ (List.mem_of_getElem? (i := 6) rfl)), (hw _ (List.mem_of_getElem? (i := 37) rfl))⟩)
  have E_W_SEG_SPACE : Exa s s.heap w_W_SEG_SPACE "com/example/omomi/omomi/WordBreak" := Exa.start ev_W_SEG_SPACE c24
  obtain ⟨w_HEBREW_LETTER, ev_HEBREW_LETTER⟩ := exa_v c26
  have S_HEBREW_LETTER : Sta s s.heap "com/example/omomi/omomi/WordBreak" "HEBREW_LETTER" "Lcom/example/omomi/omomi/WordBreak;" (.ref w_HEBREW_LETTER) := Sta.start ev_HEBREW_LETTER (Or.inr ⟨(hw _ (List.mem_of_getElem? (i := 6) rfl)), (hw _ (List.mem_of_getElem? (i := 41) rfl))⟩)
  have E_HEBREW_LETTER : Exa s s.heap w_HEBREW_LETTER "com/example/omomi/omomi/WordBreak" := Exa.start ev_HEBREW_LETTER c26
  obtain ⟨w_EXTEND_NUM_LET, ev_EXTEND_NUM_LET⟩ := exa_v c28
  have S_EXTEND_NUM_LET : Sta s s.heap "com/example/omomi/omomi/WordBreak" "EXTEND_NUM_LET" "Lcom/example/omomi/omomi/WordBreak;" (.ref w_EXTEND_NUM_LET) := Sta.start ev_EXTEND_NUM_LET (Or.inr ⟨(hw _ (List.mem_of_getElem? (i := 6) rfl)), (hw _ (List.mem_of_getElem? (i := 43) rfl))⟩)
  have E_EXTEND_NUM_LET : Exa s s.heap w_EXTEND_NUM_LET "com/example/omomi/omomi/WordBreak" := Exa.start ev_EXTEND_NUM_LET c28
  obtain ⟨w_A_LETTER, ev_A_LETTER⟩ := exa_v c30
  have S_A_LETTER : Sta s s.heap "com/example/omomi/omomi/WordBreak" "A_LETTER" "Lcom/example/omomi/omomi/WordBreak;" (.ref w_A_LETTER) := Sta.start ev_A_LETTER (Or.inr ⟨(hw _ (List.mem_of_getElem? (i := 6) rfl)), (hw _ (List.mem_of_getElem? (i := 45) rfl))⟩)
  have E_A_LETTER : Exa s s.heap w_A_LETTER "com/example/omomi/omomi/WordBreak" := Exa.start ev_A_LETTER c30
  have O_OTHER : Fld s s.heap w_OTHER "java/lang/Enum" "ordinal" "I" (.int (0 : Int32)) := own_fld ev_OTHER c2
  have O_MID_NUM : Fld s s.heap w_MID_NUM "java/lang/Enum" "ordinal" "I" (.int (12 : Int32)) := own_fld ev_MID_NUM c3
  have O_MID_NUM_LET : Fld s s.heap w_MID_NUM_LET "java/lang/Enum" "ordinal" "I" (.int (13 : Int32)) := own_fld ev_MID_NUM_LET c5
  have O_SINGLE_QUOTE : Fld s s.heap w_SINGLE_QUOTE "java/lang/Enum" "ordinal" "I" (.int (14 : Int32)) := own_fld ev_SINGLE_QUOTE c7
  have O_REGIONAL_INDICATOR : Fld s s.heap w_REGIONAL_INDICATOR "java/lang/Enum" "ordinal" "I" (.int (3 : Int32)) := own_fld ev_REGIONAL_INDICATOR c9
  have O_DOUBLE_QUOTE : Fld s s.heap w_DOUBLE_QUOTE "java/lang/Enum" "ordinal" "I" (.int (15 : Int32)) := own_fld ev_DOUBLE_QUOTE c11
  have O_SOUTHEAST_ASIAN : Fld s s.heap w_SOUTHEAST_ASIAN "java/lang/Enum" "ordinal" "I" (.int (10 : Int32)) := own_fld ev_SOUTHEAST_ASIAN c13
  have O_NUMERIC : Fld s s.heap w_NUMERIC "java/lang/Enum" "ordinal" "I" (.int (7 : Int32)) := own_fld ev_NUMERIC c15
  have O_EXTEND : Fld s s.heap w_EXTEND "java/lang/Enum" "ordinal" "I" (.int (2 : Int32)) := own_fld ev_EXTEND c17
  have O_MID_LETTER : Fld s s.heap w_MID_LETTER "java/lang/Enum" "ordinal" "I" (.int (11 : Int32)) := own_fld ev_MID_LETTER c19
  have O_KATAKANA : Fld s s.heap w_KATAKANA "java/lang/Enum" "ordinal" "I" (.int (8 : Int32)) := own_fld ev_KATAKANA c21
  have O_NEWLINE : Fld s s.heap w_NEWLINE "java/lang/Enum" "ordinal" "I" (.int (1 : Int32)) := own_fld ev_NEWLINE c23
  have O_W_SEG_SPACE : Fld s s.heap w_W_SEG_SPACE "java/lang/Enum" "ordinal" "I" (.int (4 : Int32)) := own_fld ev_W_SEG_SPACE c25
  have O_HEBREW_LETTER : Fld s s.heap w_HEBREW_LETTER "java/lang/Enum" "ordinal" "I" (.int (6 : Int32)) := own_fld ev_HEBREW_LETTER c27
  have O_EXTEND_NUM_LET : Fld s s.heap w_EXTEND_NUM_LET "java/lang/Enum" "ordinal" "I" (.int (9 : Int32)) := own_fld ev_EXTEND_NUM_LET c29
  have O_A_LETTER : Fld s s.heap w_A_LETTER "java/lang/Enum" "ordinal" "I" (.int (5 : Int32)) := own_fld ev_A_LETTER c31
  obtain ⟨n, o, h1, h2, h3, _, L, rfl, ⟨rfl, N⟩, hq⟩ := rm0 l s _ hw tables_1 i0 w_OTHER w_NEWLINE w_EXTEND w_REGIONAL_INDICATOR w_W_SEG_SPACE w_A_LETTER w_HEBREW_LETTER w_NUMERIC w_KATAKANA w_EXTEND_NUM_LET w_SOUTHEAST_ASIAN w_MID_LETTER w_MID_NUM w_MID_NUM_LET w_SINGLE_QUOTE w_DOUBLE_QUOTE s.heap s.heap.size (Nat.le_refl _) S_OTHER S_NEWLINE S_EXTEND S_REGIONAL_INDICATOR S_W_SEG_SPACE S_A_LETTER S_HEBREW_LETTER S_NUMERIC S_KATAKANA S_EXTEND_NUM_LET S_SOUTHEAST_ASIAN S_MID_LETTER S_MID_NUM S_MID_NUM_LET S_SINGLE_QUOTE S_DOUBLE_QUOTE E_OTHER E_NEWLINE E_EXTEND E_REGIONAL_INDICATOR E_W_SEG_SPACE E_A_LETTER E_HEBREW_LETTER E_NUMERIC E_KATAKANA E_EXTEND_NUM_LET E_SOUTHEAST_ASIAN E_MID_LETTER E_MID_NUM E_MID_NUM_LET E_SINGLE_QUOTE E_DOUBLE_QUOTE O_OTHER O_NEWLINE O_EXTEND O_REGIONAL_INDICATOR O_W_SEG_SPACE O_A_LETTER O_HEBREW_LETTER O_NUMERIC O_KATAKANA O_EXTEND_NUM_LET O_SOUTHEAST_ASIAN O_MID_LETTER O_MID_NUM O_MID_NUM_LET O_SINGLE_QUOTE O_DOUBLE_QUOTE p e ha hc hk s m _ below hf ((Spec.applies_iff_loose hf).mp happ).1 ⟨rfl, State.Warmed39.refl s, rfl⟩ trivial
  refine ⟨n, _, h1, h2, h3, hpost _ _ _ _ _ _ ⟨Cond.after_iff.mpr rfl, Cond.after_iff.mpr (eq_i res_at (Term.int_eval (1)) rfl), trivial⟩ ⟨hq.1, hq.2.1, (hq.2.2.sift fun y hy => Or.inr (N y hy)).mono (by decide) (by decide)⟩⟩
theorem main_1_1 : Claimed_1_1 := comes_1 fun _ _ _ _ _ _ h hF => ⟨h.1, hF⟩
theorem main_1_2 : Claimed_1_2 := comes_1 fun _ _ _ _ _ _ h hF => ⟨h.2.1, hF⟩
end Jvm.Pilot.@@N@@
namespace Jvm.Pilot.@@N@@
open Jvm Jvm.ClassFile Sem Op Lib Jvm.Free Jvm.Stand Jvm.Pilot.@@N@@.Jvm.D
/-! MADE BY PROGRAM (witnessworld.py) out of the Statement's table words and the real class files: 14 classes; the members and pool entries that the words name. The judged class is class 1, her method 2. -/
namespace start1
open Jvm.ClassFile
def u (s : String) : CpInfo := .utf8 (stringToUtf16 s)
/-- a pool by its gaps: so many unusable entries, then the entry; so many at the end -/
def gap : Nat → List CpInfo → List CpInfo
  | 0, r => r
  | n + 1, r => .unusable :: gap n r
def poolList (es : List (Nat × CpInfo)) (last : Nat) : List CpInfo := es.foldr (fun e r => gap e.1 (e.2 :: r)) (gap last [])
def pool (es : List (Nat × CpInfo)) (last : Nat) : Array CpInfo := ⟨poolList es last⟩
def fileOf (pool : Array CpInfo) (this : Nat) (attrs : Array Attribute := #[]) (ms : Array MethodInfo := #[]) (fl : Nat := 33) (sup : Nat := 0) (ifs : Array Nat := #[]) (fds : Array FieldInfo := #[]) : ClassFile where
  minorVersion := 0
  majorVersion := 65
  constantPool := pool
  accessFlags := fl
  thisClass := this
  superClass := sup
  interfaces := ifs
  fields := fds
  methods := ms
  attributes := attrs
def plain (name : String) (sup : Option ClassId) : Class where
  name := name
  kind := .ordinary
  loader := none
  accessFlags := 33
  super := sup
  interfaces := #[]
  cf := none
  fields := #[]
  methods := #[]
  instanceTypes := #[]
  staticTypes := #[]
  resolved := #[]
  callSites := []
  init := .initialized
  statics := none
  mirror := none

def pool0 : Array CpInfo := pool [(5, u "<init>"), (0, u "()V"), (1, .class_ 10), (1, u "java/lang/Object")] 113

def k0m0 : Method := { name := "<init>", desc := "()V", sig := { parameters := [], returnType := none }, accessFlags := 1, code := none }
/-- java/lang/Object -/
def k0 : Class := { plain "java/lang/Object" none with
  accessFlags := 33
  interfaces := #[]
  cf := some (fileOf pool0 8 #[] #[{ accessFlags := 1, nameIndex := 5, descriptorIndex := 6, attributes := #[] }] 33 0 #[] #[])
  fields := #[]
  methods := #[k0m0]
  instanceTypes := #[]
  staticTypes := #[]
  resolved := Array.replicate 124 none
  statics := none }

def pool1 : Array CpInfo := pool [(2, .class_ 4), (1, u "java/lang/Object"), (0, u "<init>"), (0, u "()V"), (0, .fieldref 8 9), (0, .class_ 10), (0, .nameAndType 11 12), (0, u "com/example/omomi/omomi/WordBreak"), (0, u "OTHER"), (0, u "Lcom/example/omomi/omomi/WordBreak;"), (0, .fieldref 8 14), (0, .nameAndType 15 12), (0, u "NEWLINE"), (0, .fieldref 8 17), (0, .nameAndType 18 12), (0, u "EXTEND"), (0, .fieldref 8 20), (0, .nameAndType 21 12), (0, u "REGIONAL_INDICATOR"), (0, .fieldref 8 23), (0, .nameAndType 24 12), (0, u "W_SEG_SPACE"), (0, .fieldref 8 26), (0, .nameAndType 27 12), (0, u "A_LETTER"), (0, .fieldref 8 29), (0, .nameAndType 30 12), (0, u "HEBREW_LETTER"), (0, .fieldref 8 32), (0, .nameAndType 33 12), (0, u "NUMERIC"), (0, .fieldref 8 35), (0, .nameAndType 36 12), (0, u "KATAKANA"), (0, .fieldref 8 38), (0, .nameAndType 39 12), (0, u "EXTEND_NUM_LET"), (0, .fieldref 8 41), (0, .nameAndType 42 12), (0, u "SOUTHEAST_ASIAN"), (0, .fieldref 8 44), (0, .nameAndType 45 12), (0, u "MID_LETTER"), (0, .fieldref 8 47), (0, .nameAndType 48 12), (0, u "MID_NUM"), (0, .fieldref 8 50), (0, .nameAndType 51 12), (0, u "MID_NUM_LET"), (0, .fieldref 8 53), (0, .nameAndType 54 12), (0, u "SINGLE_QUOTE"), (0, .fieldref 8 56), (0, .nameAndType 57 12), (0, u "DOUBLE_QUOTE"), (0, .methodref 59 60), (0, .class_ 61), (0, .nameAndType 62 63), (0, u "com/example/omomi/omomi/WordBreakIsBetweenDigitsPinLaw"), (0, u "pick"), (0, u "(I)Lcom/example/omomi/omomi/WordBreak;"), (0, .methodref 8 65), (0, .nameAndType 66 67), (0, u "isBetweenDigits"), (0, u "()Z"), (3, u "law"), (0, u "(I)Z")] 4

def k1m0 : Method := { name := "<init>", desc := "()V", sig := { parameters := [], returnType := none }, accessFlags := 1, code := none }
def k1c1 : Code := { maxStack := 2, maxLocals := 1, code := method_2_code, exceptionTable := #[], attributes := #[] }
def k1m1 : Method := { name := "pick", desc := "(I)Lcom/example/omomi/omomi/WordBreak;", sig := { parameters := [.int], returnType := some (.object "com/example/omomi/omomi/WordBreak") }, accessFlags := 10, code := some k1c1 }
def k1c2 : Code := { maxStack := 4, maxLocals := 4, code := code, exceptionTable := #[], attributes := #[] }
def k1m2 : Method := { name := "law", desc := "(I)Z", sig := { parameters := [.int], returnType := some .boolean }, accessFlags := 9, code := some k1c2 }
/-- com/example/omomi/omomi/WordBreakIsBetweenDigitsPinLaw -/
def k1 : Class := { plain "com/example/omomi/omomi/WordBreakIsBetweenDigitsPinLaw" (some 0) with
  accessFlags := 49
  interfaces := #[]
  cf := some (fileOf pool1 59 #[] #[{ accessFlags := 1, nameIndex := 5, descriptorIndex := 6, attributes := #[] }, { accessFlags := 10, nameIndex := 62, descriptorIndex := 63, attributes := #[] }, { accessFlags := 9, nameIndex := 71, descriptorIndex := 72, attributes := #[] }] 49 2 #[] #[])
  fields := #[]
  methods := #[k1m0, k1m1, k1m2]
  instanceTypes := #[]
  staticTypes := #[]
  resolved := Array.replicate 77 none
  statics := none }

def pool2 : Array CpInfo := pool [(1, .class_ 2), (0, u "java/lang/constant/Constable"), (0, .class_ 4), (0, u "java/lang/Object")] 6

/-- java/lang/constant/Constable -/
def k2 : Class := { plain "java/lang/constant/Constable" (some 0) with
  accessFlags := 1537
  interfaces := #[]
  cf := some (fileOf pool2 1 #[] #[] 1537 3 #[] #[])
  fields := #[]
  methods := #[]
  instanceTypes := #[]
  staticTypes := #[]
  resolved := Array.replicate 11 none
  statics := none }

def pool3 : Array CpInfo := pool [(1, .class_ 2), (0, u "java/lang/Comparable"), (0, .class_ 4), (0, u "java/lang/Object")] 7

/-- java/lang/Comparable -/
def k3 : Class := { plain "java/lang/Comparable" (some 0) with
  accessFlags := 1537
  interfaces := #[]
  cf := some (fileOf pool3 1 #[] #[] 1537 3 #[] #[])
  fields := #[]
  methods := #[]
  instanceTypes := #[]
  staticTypes := #[]
  resolved := Array.replicate 12 none
  statics := none }

def pool4 : Array CpInfo := pool [(1, .class_ 2), (0, u "java/io/Serializable"), (0, .class_ 4), (0, u "java/lang/Object")] 2

/-- java/io/Serializable -/
def k4 : Class := { plain "java/io/Serializable" (some 0) with
  accessFlags := 1537
  interfaces := #[]
  cf := some (fileOf pool4 1 #[] #[] 1537 3 #[] #[])
  fields := #[]
  methods := #[]
  instanceTypes := #[]
  staticTypes := #[]
  resolved := Array.replicate 7 none
  statics := none }

def pool5 : Array CpInfo := pool [(2, .class_ 4), (1, u "java/lang/Enum"), (0, u "name"), (0, u "Ljava/lang/String;"), (2, u "ordinal"), (0, u "I"), (1, .class_ 14), (1, u "java/lang/Object"), (4, u "hash"), (86, .class_ 108), (1, u "java/lang/Enum$EnumDesc"), (2, .class_ 112), (0, u "java/lang/constant/Constable"), (0, .class_ 114), (0, u "java/lang/Comparable"), (0, .class_ 116), (0, u "java/io/Serializable")] 87

/-- java/lang/Enum -/
def k5 : Class := { plain "java/lang/Enum" (some 0) with
  accessFlags := 1057
  interfaces := #[2, 3, 4]
  cf := some (fileOf pool5 2 #[.nestMembers #[106]] #[] 1057 12 #[111, 113, 115] #[{ accessFlags := 18, nameIndex := 5, descriptorIndex := 6, attributes := #[] }, { accessFlags := 18, nameIndex := 9, descriptorIndex := 10, attributes := #[] }, { accessFlags := 2, nameIndex := 19, descriptorIndex := 10, attributes := #[] }])
  fields := #[{ name := "name", type := (.object "java/lang/String"), accessFlags := 18, slot := 0, constantValue := 0 }, { name := "ordinal", type := .int, accessFlags := 18, slot := 1, constantValue := 0 }, { name := "hash", type := .int, accessFlags := 2, slot := 2, constantValue := 0 }]
  methods := #[]
  instanceTypes := #[(.object "java/lang/String"), .int, .int]
  staticTypes := #[]
  resolved := Array.replicate 204 none
  statics := none }

def pool6 : Array CpInfo := pool [(1, .class_ 2), (0, u "com/example/omomi/omomi/WordBreak"), (2, u "OTHER"), (0, u "Lcom/example/omomi/omomi/WordBreak;"), (2, u "NEWLINE"), (2, u "EXTEND"), (2, u "REGIONAL_INDICATOR"), (2, u "W_SEG_SPACE"), (2, u "A_LETTER"), (2, u "HEBREW_LETTER"), (2, u "NUMERIC"), (2, u "KATAKANA"), (2, u "EXTEND_NUM_LET"), (2, u "SOUTHEAST_ASIAN"), (2, u "MID_LETTER"), (0, .fieldref 1 41), (0, .nameAndType 42 6), (0, u "MID_NUM"), (0, .fieldref 1 44), (0, .nameAndType 45 6), (0, u "MID_NUM_LET"), (0, .fieldref 1 47), (0, .nameAndType 48 6), (0, u "SINGLE_QUOTE"), (2, u "DOUBLE_QUOTE"), (2, u "$VALUES"), (0, u "[Lcom/example/omomi/omomi/WordBreak;"), (6, .class_ 64), (1, u "java/lang/Enum"), (8, u "names"), (0, u "[Ljava/lang/String;"), (2, u "NAMED"), (0, u "Ljava/util/Map;"), (114, u "()Z"), (1, u "isBetweenDigits")] 34

def k6c0 : Code := { maxStack := 2, maxLocals := 1, code := prog_34_method_7_code, exceptionTable := #[], attributes := #[] }
def k6m0 : Method := { name := "isBetweenDigits", desc := "()Z", sig := { parameters := [], returnType := some .boolean }, accessFlags := 0, code := some k6c0 }
/-- com/example/omomi/omomi/WordBreak -/
def k6 : Class := { plain "com/example/omomi/omomi/WordBreak" (some 5) with
  accessFlags := 16432
  interfaces := #[]
  cf := some (fileOf pool6 1 #[] #[{ accessFlags := 0, nameIndex := 195, descriptorIndex := 193, attributes := #[] }] 16432 62 #[] #[{ accessFlags := 16409, nameIndex := 5, descriptorIndex := 6, attributes := #[] }, { accessFlags := 16409, nameIndex := 9, descriptorIndex := 6, attributes := #[] }, { accessFlags := 16409, nameIndex := 12, descriptorIndex := 6, attributes := #[] }, { accessFlags := 16409, nameIndex := 15, descriptorIndex := 6, attributes := #[] }, { accessFlags := 16409, nameIndex := 18, descriptorIndex := 6, attributes := #[] }, { accessFlags := 16409, nameIndex := 21, descriptorIndex := 6, attributes := #[] }, { accessFlags := 16409, nameIndex := 24, descriptorIndex := 6, attributes := #[] }, { accessFlags := 16409, nameIndex := 27, descriptorIndex := 6, attributes := #[] }, { accessFlags := 16409, nameIndex := 30, descriptorIndex := 6, attributes := #[] }, { accessFlags := 16409, nameIndex := 33, descriptorIndex := 6, attributes := #[] }, { accessFlags := 16409, nameIndex := 36, descriptorIndex := 6, attributes := #[] }, { accessFlags := 16409, nameIndex := 39, descriptorIndex := 6, attributes := #[] }, { accessFlags := 16409, nameIndex := 42, descriptorIndex := 6, attributes := #[] }, { accessFlags := 16409, nameIndex := 45, descriptorIndex := 6, attributes := #[] }, { accessFlags := 16409, nameIndex := 48, descriptorIndex := 6, attributes := #[] }, { accessFlags := 16409, nameIndex := 51, descriptorIndex := 6, attributes := #[] }, { accessFlags := 26, nameIndex := 77, descriptorIndex := 78, attributes := #[] }, { accessFlags := 18, nameIndex := 73, descriptorIndex := 74, attributes := #[] }, { accessFlags := 4122, nameIndex := 54, descriptorIndex := 55, attributes := #[] }])
  fields := #[{ name := "OTHER", type := (.object "com/example/omomi/omomi/WordBreak"), accessFlags := 16409, slot := 0, constantValue := 0 }, { name := "NEWLINE", type := (.object "com/example/omomi/omomi/WordBreak"), accessFlags := 16409, slot := 1, constantValue := 0 }, { name := "EXTEND", type := (.object "com/example/omomi/omomi/WordBreak"), accessFlags := 16409, slot := 2, constantValue := 0 }, { name := "REGIONAL_INDICATOR", type := (.object "com/example/omomi/omomi/WordBreak"), accessFlags := 16409, slot := 3, constantValue := 0 }, { name := "W_SEG_SPACE", type := (.object "com/example/omomi/omomi/WordBreak"), accessFlags := 16409, slot := 4, constantValue := 0 }, { name := "A_LETTER", type := (.object "com/example/omomi/omomi/WordBreak"), accessFlags := 16409, slot := 5, constantValue := 0 }, { name := "HEBREW_LETTER", type := (.object "com/example/omomi/omomi/WordBreak"), accessFlags := 16409, slot := 6, constantValue := 0 }, { name := "NUMERIC", type := (.object "com/example/omomi/omomi/WordBreak"), accessFlags := 16409, slot := 7, constantValue := 0 }, { name := "KATAKANA", type := (.object "com/example/omomi/omomi/WordBreak"), accessFlags := 16409, slot := 8, constantValue := 0 }, { name := "EXTEND_NUM_LET", type := (.object "com/example/omomi/omomi/WordBreak"), accessFlags := 16409, slot := 9, constantValue := 0 }, { name := "SOUTHEAST_ASIAN", type := (.object "com/example/omomi/omomi/WordBreak"), accessFlags := 16409, slot := 10, constantValue := 0 }, { name := "MID_LETTER", type := (.object "com/example/omomi/omomi/WordBreak"), accessFlags := 16409, slot := 11, constantValue := 0 }, { name := "MID_NUM", type := (.object "com/example/omomi/omomi/WordBreak"), accessFlags := 16409, slot := 12, constantValue := 0 }, { name := "MID_NUM_LET", type := (.object "com/example/omomi/omomi/WordBreak"), accessFlags := 16409, slot := 13, constantValue := 0 }, { name := "SINGLE_QUOTE", type := (.object "com/example/omomi/omomi/WordBreak"), accessFlags := 16409, slot := 14, constantValue := 0 }, { name := "DOUBLE_QUOTE", type := (.object "com/example/omomi/omomi/WordBreak"), accessFlags := 16409, slot := 15, constantValue := 0 }, { name := "NAMED", type := (.object "java/util/Map"), accessFlags := 26, slot := 16, constantValue := 0 }, { name := "names", type := (.array (.object "java/lang/String")), accessFlags := 18, slot := 3, constantValue := 0 }, { name := "$VALUES", type := (.array (.object "com/example/omomi/omomi/WordBreak")), accessFlags := 4122, slot := 17, constantValue := 0 }]
  methods := #[k6m0]
  instanceTypes := #[(.object "java/lang/String"), .int, .int, (.array (.object "java/lang/String"))]
  staticTypes := #[(.object "com/example/omomi/omomi/WordBreak"), (.object "com/example/omomi/omomi/WordBreak"), (.object "com/example/omomi/omomi/WordBreak"), (.object "com/example/omomi/omomi/WordBreak"), (.object "com/example/omomi/omomi/WordBreak"), (.object "com/example/omomi/omomi/WordBreak"), (.object "com/example/omomi/omomi/WordBreak"), (.object "com/example/omomi/omomi/WordBreak"), (.object "com/example/omomi/omomi/WordBreak"), (.object "com/example/omomi/omomi/WordBreak"), (.object "com/example/omomi/omomi/WordBreak"), (.object "com/example/omomi/omomi/WordBreak"), (.object "com/example/omomi/omomi/WordBreak"), (.object "com/example/omomi/omomi/WordBreak"), (.object "com/example/omomi/omomi/WordBreak"), (.object "com/example/omomi/omomi/WordBreak"), (.object "java/util/Map"), (.array (.object "com/example/omomi/omomi/WordBreak"))]
  resolved := Array.replicate 230 none
  statics := some 0 }

def pool7 : Array CpInfo := pool [(1, u "java/lang/Cloneable"), (0, .class_ 1), (0, u "java/lang/Object"), (0, .class_ 3)] 3

/-- java/lang/Cloneable -/
def k7 : Class := { plain "java/lang/Cloneable" (some 0) with
  accessFlags := 1537
  interfaces := #[]
  cf := some (fileOf pool7 2 #[] #[] 1537 4 #[] #[])
  fields := #[]
  methods := #[]
  instanceTypes := #[]
  staticTypes := #[]
  resolved := Array.replicate 8 none
  statics := none }

/-- the primitive boolean -/
def k8 : Class := { plain "boolean" none with kind := .primitive 'Z', accessFlags := 0x411 }
/-- [Z -/
def k9 : Class := { plain "[Z" (some 0) with kind := .array 8 .boolean, interfaces := #[7, 4], accessFlags := 1041 }

/-- the primitive byte -/
def k10 : Class := { plain "byte" none with kind := .primitive 'B', accessFlags := 0x411 }
/-- [B -/
def k11 : Class := { plain "[B" (some 0) with kind := .array 10 .byte, interfaces := #[7, 4], accessFlags := 1041 }

/-- the primitive int -/
def k12 : Class := { plain "int" none with kind := .primitive 'I', accessFlags := 0x411 }
/-- [I -/
def k13 : Class := { plain "[I" (some 0) with kind := .array 12 .int, interfaces := #[7, 4], accessFlags := 1041 }

def heap : Heap := #[{ cls := 6, slots := #[.ref 1, .ref 2, .ref 3, .ref 4, .ref 5, .ref 6, .ref 7, .ref 8, .ref 9, .ref 10, .ref 11, .ref 12, .ref 13, .ref 14, .ref 15, .ref 16, .null, .null], vm := .statics 6 },
  { cls := 6, slots := #[.null, .int 0, .int 0, .null], vm := .none },
  { cls := 6, slots := #[.null, .int 1, .int 0, .null], vm := .none },
  { cls := 6, slots := #[.null, .int 2, .int 0, .null], vm := .none },
  { cls := 6, slots := #[.null, .int 3, .int 0, .null], vm := .none },
  { cls := 6, slots := #[.null, .int 4, .int 0, .null], vm := .none },
  { cls := 6, slots := #[.null, .int 5, .int 0, .null], vm := .none },
  { cls := 6, slots := #[.null, .int 6, .int 0, .null], vm := .none },
  { cls := 6, slots := #[.null, .int 7, .int 0, .null], vm := .none },
  { cls := 6, slots := #[.null, .int 8, .int 0, .null], vm := .none },
  { cls := 6, slots := #[.null, .int 9, .int 0, .null], vm := .none },
  { cls := 6, slots := #[.null, .int 10, .int 0, .null], vm := .none },
  { cls := 6, slots := #[.null, .int 11, .int 0, .null], vm := .none },
  { cls := 6, slots := #[.null, .int 12, .int 0, .null], vm := .none },
  { cls := 6, slots := #[.null, .int 13, .int 0, .null], vm := .none },
  { cls := 6, slots := #[.null, .int 14, .int 0, .null], vm := .none },
  { cls := 6, slots := #[.null, .int 15, .int 0, .null], vm := .none }]
def classes : Array Class := #[k0, k1, k2, k3, k4, k5, k6, k7, k8, k9, k10, k11, k12, k13]
def interned : List (Array UInt16 × Addr) := []
def slotsUsed : Nat := 82
def theMethod : MethodId := ⟨1, 2⟩
def args0 : Array Value := #[.int 5]
def aboutOver (below : List Frame) : State where
  vm := { classes := classes, interned := interned.toArray }
  heap := heap
  slotsUsed := slotsUsed
  threads := #[{ frames := .invoking theMethod args0 :: below }]
def below0 : List Frame := [.native { method := ⟨0, 0⟩, args := #[] }]
def about1 : State := aboutOver below0
def p0 : Program := .bare "" "" ""
def e0 : Env := launch0.env 0 0 0
theorem w_frames : about1.frames = Frame.invoking theMethod args0 :: below0 := rfl
set_option maxRecDepth 65536 in
theorem w_args : argsFit about1.vm theMethod args0 = true := by decide +kernel
set_option maxRecDepth 65536 in
theorem w_heap : heapFits about1 = true := by decide +kernel
set_option maxRecDepth 65536 in
theorem w_runnable : about1.curStatus? = some .runnable := by decide +kernel
set_option maxRecDepth 65536 in
theorem w_alone : about1.alone = true := by decide +kernel
set_option maxRecDepth 65536 in
theorem w_named : about1.methodNamed? x = some theMethod := by decide +kernel
set_option maxRecDepth 65536 in
theorem w_hears : about1.hears theMethod below0 = true := by decide +kernel
set_option maxRecDepth 65536 in
theorem w_ripe : about1.ripe theMethod args0 below0 = true := by decide +kernel
theorem w_running : about1.status = .running := rfl
set_option maxRecDepth 65536 in
theorem w_room : about1.hasRoom e0.platform room_1 = true :=
  launch0.hasRoom_least _ room_1 (by decide +kernel) (by decide +kernel) (by decide +kernel) (by decide +kernel) (by decide +kernel) (by decide +kernel)
theorem allAtoms_all (ts : List Jvm.Cond) (a : Array Jvm.Value) (st : Jvm.State) : (allAtoms ts).before a st = ts.all (fun c => c.before a st) := by
  induction ts with
  | nil => rfl
  | cons c t ih =>
    show (Jvm.Cond.and c (allAtoms t)).before a st = _
    rw [Jvm.Cond.before_and, ih, List.all_cons]
def words1 : List Jvm.Cond := Jvm.Cond.code x code maxLocals ret :: tables_1
/-- a 'code' word, met by the world's own term for the bytes: nothing is compared byte by byte -/
theorem code_word {y : MethodName} {bytes : ByteArray} {mx : Nat} {rt : Option FieldType} {a : Array Value} {s : State} {m : MethodId} {meth : Method} {c : Code} (h1 : s.methodNamed? y = some m) (h2 : s.vm.method? m = some meth) (h3 : meth.code = some c) (h4 : c.code = bytes)
    (h5 : (c.maxLocals == mx && c.exceptionTable.isEmpty && decide (c.maxStack ≤ mostOperands) && decide (meth.sig.returnType = rt) && !meth.locks && decide (parseMethodDescriptor y.desc = some meth.sig)) = true) : (Jvm.Cond.code y bytes mx rt).before a s = true := by
  simp only [Bool.and_eq_true, beq_iff_eq, Bool.not_eq_true', decide_eq_true_eq] at h5
  obtain ⟨⟨⟨⟨⟨g1, g2⟩, g3⟩, g4⟩, g5⟩, g6⟩ := h5
  simp [Cond.before, Cond.holds, Cond.value, h1, h2, h3, h4, g1, g2, g3, g4, g5, g6]
def isCode : Jvm.Cond → Bool
  | .code _ _ _ _ => true
  | _ => false
theorem all_split {L : List Jvm.Cond} {P : Jvm.Cond → Bool} (h1 : L.all (fun c => isCode c || P c) = true) (h2 : ∀ c ∈ L.filter isCode, P c = true) : L.all P = true := by
  refine List.all_eq_true.mpr fun c hc => ?_
  have h := List.all_eq_true.mp h1 c hc
  rcases Bool.eq_false_or_eq_true (isCode c) with hi | hi
  · exact h2 c (List.mem_filter.mpr ⟨hc, hi⟩)
  · simpa [hi] using h
set_option maxRecDepth 65536 in
theorem w_c0 : (Jvm.Cond.code x code maxLocals ret).before args0 about1 = true := code_word (m := ⟨1, 2⟩) (meth := k1m2) (c := k1c2) (by decide +kernel) rfl rfl rfl (by decide +kernel)
set_option maxRecDepth 65536 in
theorem w_c1 : (Jvm.Cond.code ({ cls := "com/example/omomi/omomi/WordBreakIsBetweenDigitsPinLaw", name := "pick", desc := "(I)Lcom/example/omomi/omomi/WordBreak;" } : Jvm.MethodName) method_2_code (1 : Nat) (Option.some (Jvm.ClassFile.FieldType.object "com/example/omomi/omomi/WordBreak"))).before args0 about1 = true := code_word (m := ⟨1, 1⟩) (meth := k1m1) (c := k1c1) (by decide +kernel) rfl rfl rfl (by decide +kernel)
set_option maxRecDepth 65536 in
theorem w_c2 : (Jvm.Cond.code ({ cls := "com/example/omomi/omomi/WordBreak", name := "isBetweenDigits", desc := "()Z" } : Jvm.MethodName) prog_34_method_7_code (1 : Nat) (Option.some Jvm.ClassFile.FieldType.boolean)).before args0 about1 = true := code_word (m := ⟨6, 0⟩) (meth := k6m0) (c := k6c0) (by decide +kernel) rfl rfl rfl (by decide +kernel)
def codes1 : List Jvm.Cond := [Jvm.Cond.code x code maxLocals ret, Jvm.Cond.code ({ cls := "com/example/omomi/omomi/WordBreakIsBetweenDigitsPinLaw", name := "pick", desc := "(I)Lcom/example/omomi/omomi/WordBreak;" } : Jvm.MethodName) method_2_code (1 : Nat) (Option.some (Jvm.ClassFile.FieldType.object "com/example/omomi/omomi/WordBreak")), Jvm.Cond.code ({ cls := "com/example/omomi/omomi/WordBreak", name := "isBetweenDigits", desc := "()Z" } : Jvm.MethodName) prog_34_method_7_code (1 : Nat) (Option.some Jvm.ClassFile.FieldType.boolean)]
set_option maxRecDepth 65536 in
theorem codes_eq : words1.filter isCode = codes1 := rfl
theorem w_codes : ∀ c ∈ words1.filter isCode, c.before args0 about1 = true := by
  rw [codes_eq]
  intro c hc
  simp only [codes1, List.mem_cons, List.not_mem_nil, or_false] at hc
  rcases hc with rfl | rfl | rfl
  · exact w_c0
  · exact w_c1
  · exact w_c2
set_option maxRecDepth 65536 in
theorem w_t1 : (words1.take 24).all (fun c => isCode c || c.before args0 about1) = true := by decide +kernel
set_option maxRecDepth 65536 in
theorem w_t2 : (words1.drop 24).all (fun c => isCode c || c.before args0 about1) = true := by decide +kernel
theorem w_tables : (allAtoms (Jvm.Cond.code x code maxLocals ret :: tables_1)).before args0 about1 = true := by
  rw [allAtoms_all]
  show words1.all (fun c => c.before args0 about1) = true
  refine all_split ?_ w_codes
  rw [← List.take_append_drop 24 words1, List.all_append, w_t1, w_t2]
  rfl
set_option maxRecDepth 65536 in
theorem w_case : (Jvm.Cond.and given_1 narrow_1).before args0 about1 = true := by decide +kernel
theorem w_applies : (headSpec (Jvm.Cond.code x code maxLocals ret :: tables_1) room_1).applies x e0.platform about1 = true :=
  (Spec.applies_iff w_frames).mpr ⟨w_running, w_runnable, w_alone, w_named, w_hears, w_ripe, w_room, w_tables⟩
theorem atStart : AtStart classFile x code maxLocals ret World_1 tables_1 room_1 Calls_1 rest_1 Pre_1 launch0 p0 e0 about1 theMethod args0 below0 :=
  ⟨lists_1, trivial, launch0.admits_env _ _ _, launch0.least_env, fairChoices_fair.cas, fairChoices_fair.clock, w_frames, w_args, w_heap, w_applies, trivial, trivial, w_case⟩
end start1
theorem witness_1 : WitnessClaimed_1 := ⟨start1.p0, start1.e0, start1.about1, start1.theMethod, start1.args0, start1.below0, start1.atStart⟩
end Jvm.Pilot.@@N@@

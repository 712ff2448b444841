import JvmDerived
import JvmDerived.Pilot.@@N@@Statement
import JvmDerived.Pilot.@@N@@Code
set_option linter.unusedVariables false
set_option linter.unusedSimpArgs false
@@BLOCK:NumsL.lean.txt@@
namespace Jvm.RoadKit
open Sem ClassFile Op Lib Jvm.Stand Jvm.Free Jvm.LawKit
section New
variable {p : Program} {l : Launch} {e : Env} {R : Room} {s : State} {m : MethodId} {args : Array Value} {below : List Frame} {meth : Method} {c : Code} {T : State} {locs : List Loc} {cells slots : Nat}
theorem retI (X : Stand p l e R s m args below meth c T locs cells slots) (hx : p.tables.exec = Jvm.exec) {pc : Nat} {Ls : Array Slot} {z : Int32} {rest : List Value} (hret : meth.sig.returnType = some .int) (hd : decode c.code pc = .ok (.ireturn, 1)) {fs : List Frame}
    (hl : ∀ (f : JFrame) (acts : List Action), f.method = m → f.locked = none → f.entered = [] → (doReturn e (T.setTop f) acts (some (.int z))).1 = T.setFrames fs) : Steps p.tables e below (T.setTop (mkF m pc Ls (.int z :: rest))) (T.setFrames fs) := by
  have hm' : T.vm.method? m = some meth := X.method'
  have hn : narrow .int (.int z) = .int z := rfl
  show Steps p.tables e below (T.setTop { method := m, pc := pc, locals := Ls, stack := _ :: rest, locked := none }) _
  jvm_step X.here [X.here.top, hx, hd, hm', hret, hn]
  first | (intro acts; rw [hl _ acts rfl rfl rfl]) | rw [hl _ _ rfl rfl rfl]
  exact Steps.refl _
end New
end Jvm.RoadKit
namespace Jvm.Pilot.@@N@@
open Jvm Jvm.ClassFile Sem Op Lib Jvm.Free Jvm.Stand Jvm.LawKit Jvm.RoadKit Bundle Jvm.Pilot.@@N@@.Jvm.D
theorem own_eqint {args : Array Value} {first s : State} {o : Option Outcome} {idx : List Nat} {t : Term} {k : Int32} (h : (Jvm.Cond.eq t (.int k)).value args first o s idx = some true) : t.eval args first o idx s = some (.int k) := by
  obtain ⟨x, y, hx, hy, hk, hk'⟩ := cmp_v (Or.inl h)
  have ey : y = .int k := (Option.some.inj ((Term.int_eval k).symm.trans hy)).symm
  subst ey
  obtain ⟨z, rfl⟩ := hk'
  have hv : (Jvm.Cond.eq t (.int k)).value args first o s idx = some (decide (z = k)) := by simp [Cond.value, hx, hy]
  have := gotT hv h
  rw [hx, this]
theorem own_eqref {args : Array Value} {first s : State} {o : Option Outcome} {idx : List Nat} {t u : Term} {v : Value} (h : (Jvm.Cond.eq t u).value args first o s idx = some true) (hu : u.eval args first o idx s = some v) (hv : v.isRef = true) : t.eval args first o idx s = some v := by
  obtain ⟨x, y, hx, hy, hk, hk'⟩ := cmp_v (Or.inl h)
  have ey : y = v := Option.some.inj (hy.symm.trans hu)
  subst ey
  have hxr : x.isRef = true := by cases y <;> simp [Value.isRef] at hv <;> exact hk'.2
  have := gotT (eq_R hx hy hxr hv) h
  rw [hx, this]
theorem own_fld {args : Array Value} {s : State} {t : Term} {C n d : String} {k : Int32} {a : Addr} (ht : t.eval args s none [] s = some (.ref a)) (h : (Jvm.Cond.eq (.field t C n d) (.int k)).value args s none s [] = some true) : Fld s s.heap a C n d (.int k) := Fld.start ((fld_at ht).symm.trans (own_eqint h))
theorem own_fld_inj {Z : State} {h : Heap} {a : Addr} {C n d : String} {v w : Value} (F : Fld Z h a C n d v) (G : Fld Z h a C n d w) : v = w := by
  obtain ⟨c1, cf1, k1, i1, f1, h1, h2, -, -, -, -, h3⟩ := F
  obtain ⟨c2, cf2, k2, i2, f2, g1, g2, -, -, -, -, g3⟩ := G
  rw [h1] at g1; cases g1
  rw [h2] at g2; cases g2
  exact Option.some.inj (h3.symm.trans g3)
theorem own_ne {Z : State} {h : Heap} {a b : Addr} {C n d : String} {i j : Int32} (F : Fld Z h a C n d (.int i)) (G : Fld Z h b C n d (.int j)) (hij : ¬ i = j) : ¬ a = b := fun e => by
  subst e
  exact hij (Value.int.inj (own_fld_inj F G))
theorem own_keep_ext {h h' : Heap} (K : Keep h h' []) : Ext h h' := ⟨K.1, fun a c q => K.2.1 a c q nin0⟩
theorem own_sta_keep {Z : State} {h h' : Heap} {C n d C' : String} {v : Value} {b : Addr} (F : Sta Z h C n d v) (K : Keep h h' [b]) (E : Exa Z h b C') : Sta Z h' C n d v := by
  obtain ⟨cf, i, k, f, st, cell, h1, h2, h3, h4, h5, h6, h7⟩ := F
  obtain ⟨cell', k', g1, g2, g3, g4, g5⟩ := E
  refine ⟨cf, i, k, f, st, cell, h1, h2, h3, h4, K.2.1 st cell h5 (ninS (fun q => ?_) nin0), h6, h7⟩
  subst q
  rw [h5] at g1; cases g1
  rw [h6] at g4; cases g4
theorem own_cases4 {k : Int32} (h0 : 0 ≤ k.toInt) (h1 : k.toInt < 4) : k = (0 : Int32) ∨ k = (1 : Int32) ∨ k = (2 : Int32) ∨ k = (3 : Int32) := by
  have h : k.toInt = 0 ∨ k.toInt = 1 ∨ k.toInt = 2 ∨ k.toInt = 3 := by omega
  rcases h with h | h | h | h
  · exact Or.inl (Int32.toInt_inj.mp (by rw [h]; rfl))
  · exact Or.inr (Or.inl (Int32.toInt_inj.mp (by rw [h]; rfl)))
  · exact Or.inr (Or.inr (Or.inl (Int32.toInt_inj.mp (by rw [h]; rfl))))
  · exact Or.inr (Or.inr (Or.inr ((Int32.toInt_inj.mp (by rw [h]; rfl)))))
theorem own_and3 (x : Int32) : 0 ≤ (x &&& (3 : Int32)).toInt ∧ (x &&& (3 : Int32)).toInt < 4 := by
  have e1 : (x &&& (3 : Int32)).toInt = x.toInt % 2 ^ 2 := Jvm.Kit.i32_mask x 3 (k := 2) (by decide) (by decide)
  rw [e1]; omega
theorem own_arr {Z : State} {h : Heap} {b : Addr} {k : ClassId} {ty : FieldType} {z : Int32} {vs : List Value} {d : Value} (V : Arv Z h b k ty z vs d) : ∃ cl : Cell, Arr Z h b cl ty ∧ cl.slots.size = z.toNatClampNeg := by
  obtain ⟨cl, A, -, S, -⟩ := V
  exact ⟨cl, A, S⟩
theorem d1_0 : decode method_2_code 0 = .ok (.iload_n 0, 1) := by decide +kernel
theorem d1_1 : decode method_2_code 1 = .ok (.ifCond .ne 7, 3) := by decide +kernel
theorem d1_4 : decode method_2_code 4 = .ok (.iconst 0, 1) := by decide +kernel
theorem d1_5 : decode method_2_code 5 = .ok (.newarray .double, 2) := by decide +kernel
theorem d1_7 : decode method_2_code 7 = .ok (.areturn, 1) := by decide +kernel
theorem pn_rmC0 : plainName "com/example/wellknit/wellknit/LineStringIsEmptyPinLaw" = true := by first | (simp [plainName, overriddenIn]; done) | decide +kernel
theorem ef_rmC0 (m : MethodId) (d2 : UInt64) (d3 : UInt64) : entryFrame m #[(.int (0 : Int32)), (.double d2), (.double d3)] 5 = mkF m 0 #[.val (.int (0 : Int32)), .val (.double d2), .second, .val (.double d3), .second] [] := by first | (simp [entryFrame, mkF, argsToLocals, Value.category]; done) | rfl
def Q_rmC0 (Z : State) (d2 : UInt64) (d3 : UInt64) (h0 : Heap) (n0 : Nat) (v : Option Value) (h : Heap) (L : List Loc) : Prop := ∃ b : Addr, v = some (.ref b) ∧ Fr n0 L ∧ Ext h0 h ∧ h0.size ≤ b ∧ ∃ cl : Cell, Arr Z h b cl .double ∧ cl.slots.size = (0 : Int32).toNatClampNeg
set_option maxRecDepth 65536 in
set_option maxHeartbeats 40000000 in
theorem rmC0 (l : Launch) (Z : State) (a0 : Array Value) (hw : ∀ d ∈ tables_1, d.before a0 Z = true) (ws : List Jvm.Cond) (d2 : UInt64) (d3 : UInt64) (h0 : Heap) (n0 : Nat) (Z0 : n0 ≤ h0.size) :
    MetFree l (⟨"com/example/wellknit/wellknit/LineStringIsEmptyPinLaw", "coords", "(IDD)[D"⟩ : MethodName) (head1 (Jvm.Cond.code (⟨"com/example/wellknit/wellknit/LineStringIsEmptyPinLaw", "coords", "(IDD)[D"⟩ : MethodName) method_2_code 5 (some (.array .double)) :: ws) ({ frames := 0, cells := 1, slots := 0, locals := 0 } : Room)) (fun a U => a = #[(.int (0 : Int32)), (.double d2), (.double d3)] ∧ Z.Warmed39 U.vm ∧ U.heap = h0) (fun _ _ _ _ _ => True) (fun _ U o U' => ∃ v L, o = .returned v ∧ Q_rmC0 Z d2 d3 h0 n0 v U'.heap L ∧ FrameEnd U o U' L ({ frames := 0, cells := 1, slots := 0, locals := 0 } : Room).cells ({ frames := 0, cells := 1, slots := 0, locals := 0 } : Room).slots) := by
  refine MetFree.of_bodySF (plainFor_of_name pn_rmC0) hisR ?_
  intro p e s m args below meth c s₁ Bd hml0 hP hK
  obtain ⟨rfl, hZ, hh⟩ := hP
  have hx := Bd.exec
  have hby := Bd.bytes
  have hml : c.maxLocals = 5 := hml0
  have hown : s.vm.findClass "com/example/wellknit/wellknit/LineStringIsEmptyPinLaw" = some m.cls := findClass_of_methodNamed Bd.named
  have hnm := (name_of_methodNamed Bd.named Bd.method).1
  have X0 : Stand p l e ({ frames := 0, cells := 1, slots := 0, locals := 0 } : Room) s m #[(.int (0 : Int32)), (.double d2), (.double d3)] below meth c s₁ [] 0 0 := Stand.of_body Bd
  have e0 : s₁.heap = h0 := by rw [← hh, Bd.state]; rfl
  have N0 := Fr.nil n0
  have pre0 : ∀ t, Steps p.tables e below (s₁.setTop (mkF m 0 #[.val (.int (0 : Int32)), .val (.double d2), .second, .val (.double d3), .second] [])) t → Steps p.tables e below (s₁.setTop (entryFrame m #[(.int (0 : Int32)), (.double d2), (.double d3)] 5)) t := fun t k => castTop (ef_rmC0 m d2 d3) k
  obtain ⟨T1, h1, k1, X1, e1, E1, A1, st1⟩ := newP X0 hx hZ (hw _ (List.mem_of_getElem? (i := 9) rfl)) e0 (g := (mkF m 5 #[.val (.int (0 : Int32)), .val (.double d2), .second, .val (.double d3), .second] [(.int (0 : Int32))])) rfl (hb hby d1_5) rfl (by decide) (cap := 0) (by decide) (by decide) (by decide) (by decide)
  obtain ⟨b1, g1⟩ : ∃ z, z = h0.size := ⟨_, rfl⟩
  rw [← g1] at A1 st1
  have V_b1 : Arv Z h1 b1 k1 .double (0 : Int32) [] (.double 0) := (Arv.new A1 (by decide)).pad (pad_rep [] (.double 0) 0)
  have g_b1 : n0 ≤ b1 := Nat.le_trans Z0 (Nat.le_of_eq g1.symm)
  have sz_b1 : h0.size ≤ b1 := Nat.le_trans ((Keep.refl h0 [])).1 (Nat.le_of_eq g1.symm)
  have K1 : Keep h0 h1 [] := ((Keep.refl h0 [])).ext E1
  obtain ⟨fs, hr, hrun, hended, hW, hsame⟩ := X1.leave (v := some (.ref b1)) (fun h => by rw [Bd.returns] at h; cases h)
  refine ⟨_, _, pre0 _ ?_, hrun, hended, _, _, rfl, ?_, ⟨_, rfl⟩, hW, hsame.mono (by decide) (by decide)⟩
  · show Steps p.tables e below (s₁.setTop (mkF m 0 #[.val (.int (0 : Int32)), .val (.double d2), .second, .val (.double d3), .second] [])) _
    refine XS.iloadN X0.here hx rfl (hb hby d1_0) rfl ?_
    show Steps p.tables e below (s₁.setTop (mkF m 1 #[.val (.int (0 : Int32)), .val (.double d2), .second, .val (.double d3), .second] [(.int (0 : Int32))])) _
    refine XS.ifNo X0.here hx rfl (hb hby d1_1) rfl ((if0 _ _).trans (teq (rfl : (0 : Int32) = (0 : Int32))).2) ?_
    show Steps p.tables e below (s₁.setTop (mkF m 4 #[.val (.int (0 : Int32)), .val (.double d2), .second, .val (.double d3), .second] [])) _
    refine XS.iconst X0.here hx rfl (hb hby d1_4) ?_
    show Steps p.tables e below (s₁.setTop (mkF m 5 #[.val (.int (0 : Int32)), .val (.double d2), .second, .val (.double d3), .second] [(.int (0 : Int32))])) _
    refine st1 _ ?_
    show Steps p.tables e below (T1.setTop (mkF m 7 #[.val (.int (0 : Int32)), .val (.double d2), .second, .val (.double d3), .second] [(.ref b1)])) _
    jvm_step X1.here [X1.here.top, hx, (hb hby d1_7), X1.method', Bd.returns, Value.isRef, FieldType.isReference]
    first | (intro acts; rw [hr _ acts rfl rfl rfl]) | rw [hr _ _ rfl rfl rfl]
    exact Steps.refl _
  · show Q_rmC0 Z d2 d3 h0 n0 _ T1.heap _
    rw [e1]
    exact ⟨b1, rfl, N0, own_keep_ext K1, sz_b1, own_arr V_b1⟩
theorem d1_8 : decode method_2_code 8 = .ok (.iload_n 0, 1) := by decide +kernel
theorem d1_9 : decode method_2_code 9 = .ok (.iconst 1, 1) := by decide +kernel
theorem d1_10 : decode method_2_code 10 = .ok (.if_icmp .ne 15, 3) := by decide +kernel
theorem d1_13 : decode method_2_code 13 = .ok (.iconst 2, 1) := by decide +kernel
theorem d1_14 : decode method_2_code 14 = .ok (.newarray .double, 2) := by decide +kernel
theorem d1_16 : decode method_2_code 16 = .ok (.dup, 1) := by decide +kernel
theorem d1_17 : decode method_2_code 17 = .ok (.iconst 0, 1) := by decide +kernel
theorem d1_18 : decode method_2_code 18 = .ok (.dload_n 1, 1) := by decide +kernel
theorem d1_19 : decode method_2_code 19 = .ok (.dastore, 1) := by decide +kernel
theorem d1_20 : decode method_2_code 20 = .ok (.dup, 1) := by decide +kernel
theorem d1_21 : decode method_2_code 21 = .ok (.iconst 1, 1) := by decide +kernel
theorem d1_22 : decode method_2_code 22 = .ok (.dload_n 3, 1) := by decide +kernel
theorem d1_23 : decode method_2_code 23 = .ok (.dastore, 1) := by decide +kernel
theorem d1_24 : decode method_2_code 24 = .ok (.areturn, 1) := by decide +kernel
theorem pn_rmC1 : plainName "com/example/wellknit/wellknit/LineStringIsEmptyPinLaw" = true := by first | (simp [plainName, overriddenIn]; done) | decide +kernel
theorem ef_rmC1 (m : MethodId) (d2 : UInt64) (d3 : UInt64) : entryFrame m #[(.int (1 : Int32)), (.double d2), (.double d3)] 5 = mkF m 0 #[.val (.int (1 : Int32)), .val (.double d2), .second, .val (.double d3), .second] [] := by first | (simp [entryFrame, mkF, argsToLocals, Value.category]; done) | rfl
def Q_rmC1 (Z : State) (d2 : UInt64) (d3 : UInt64) (h0 : Heap) (n0 : Nat) (v : Option Value) (h : Heap) (L : List Loc) : Prop := ∃ b : Addr, v = some (.ref b) ∧ Fr n0 L ∧ Ext h0 h ∧ h0.size ≤ b ∧ ∃ cl : Cell, Arr Z h b cl .double ∧ cl.slots.size = (2 : Int32).toNatClampNeg
set_option maxRecDepth 65536 in
set_option maxHeartbeats 40000000 in
theorem rmC1 (l : Launch) (Z : State) (a0 : Array Value) (hw : ∀ d ∈ tables_1, d.before a0 Z = true) (ws : List Jvm.Cond) (d2 : UInt64) (d3 : UInt64) (h0 : Heap) (n0 : Nat) (Z0 : n0 ≤ h0.size) :
    MetFree l (⟨"com/example/wellknit/wellknit/LineStringIsEmptyPinLaw", "coords", "(IDD)[D"⟩ : MethodName) (head1 (Jvm.Cond.code (⟨"com/example/wellknit/wellknit/LineStringIsEmptyPinLaw", "coords", "(IDD)[D"⟩ : MethodName) method_2_code 5 (some (.array .double)) :: ws) ({ frames := 0, cells := 1, slots := 2, locals := 0 } : Room)) (fun a U => a = #[(.int (1 : Int32)), (.double d2), (.double d3)] ∧ Z.Warmed39 U.vm ∧ U.heap = h0) (fun _ _ _ _ _ => True) (fun _ U o U' => ∃ v L, o = .returned v ∧ Q_rmC1 Z d2 d3 h0 n0 v U'.heap L ∧ FrameEnd U o U' L ({ frames := 0, cells := 1, slots := 2, locals := 0 } : Room).cells ({ frames := 0, cells := 1, slots := 2, locals := 0 } : Room).slots) := by
  refine MetFree.of_bodySF (plainFor_of_name pn_rmC1) hisR ?_
  intro p e s m args below meth c s₁ Bd hml0 hP hK
  obtain ⟨rfl, hZ, hh⟩ := hP
  have hx := Bd.exec
  have hby := Bd.bytes
  have hml : c.maxLocals = 5 := hml0
  have hown : s.vm.findClass "com/example/wellknit/wellknit/LineStringIsEmptyPinLaw" = some m.cls := findClass_of_methodNamed Bd.named
  have hnm := (name_of_methodNamed Bd.named Bd.method).1
  have X0 : Stand p l e ({ frames := 0, cells := 1, slots := 2, locals := 0 } : Room) s m #[(.int (1 : Int32)), (.double d2), (.double d3)] below meth c s₁ [] 0 0 := Stand.of_body Bd
  have e0 : s₁.heap = h0 := by rw [← hh, Bd.state]; rfl
  have N0 := Fr.nil n0
  have pre0 : ∀ t, Steps p.tables e below (s₁.setTop (mkF m 0 #[.val (.int (1 : Int32)), .val (.double d2), .second, .val (.double d3), .second] [])) t → Steps p.tables e below (s₁.setTop (entryFrame m #[(.int (1 : Int32)), (.double d2), (.double d3)] 5)) t := fun t k => castTop (ef_rmC1 m d2 d3) k
  obtain ⟨T1, h1, k1, X1, e1, E1, A1, st1⟩ := newP X0 hx hZ (hw _ (List.mem_of_getElem? (i := 9) rfl)) e0 (g := (mkF m 14 #[.val (.int (1 : Int32)), .val (.double d2), .second, .val (.double d3), .second] [(.int (2 : Int32))])) rfl (hb hby d1_14) rfl (by decide) (cap := 2) (by decide) (by decide) (by decide) (by decide)
  obtain ⟨b1, g1⟩ : ∃ z, z = h0.size := ⟨_, rfl⟩
  rw [← g1] at A1 st1
  have V_b1 : Arv Z h1 b1 k1 .double (2 : Int32) [(.double 0), (.double 0)] (.double 0) := (Arv.new A1 (by decide)).pad (pad_rep [] (.double 0) 2)
  have g_b1 : n0 ≤ b1 := Nat.le_trans Z0 (Nat.le_of_eq g1.symm)
  have sz_b1 : h0.size ≤ b1 := Nat.le_trans ((Keep.refl h0 [])).1 (Nat.le_of_eq g1.symm)
  have K1 : Keep h0 h1 [] := ((Keep.refl h0 [])).ext E1
  obtain ⟨cl2, Ar2, q2, S2, N2_, H2, G2⟩ := V_b1
  obtain ⟨T2, h2, X2, e2, W2, st2⟩ := stD X1 hx hZ e1 Ar2 (j := (0 : Int32)) (inb_of S2 ⟨by decide, by decide⟩) (g := (mkF m 19 #[.val (.int (1 : Int32)), .val (.double d2), .second, .val (.double d3), .second] [(.double d2), (.int (0 : Int32)), (.ref b1), (.ref b1)])) rfl rfl (hb hby d1_19)
  have V2 := Arv.set Ar2 q2 S2 N2_ H2 G2 rfl W2 0 rfl (Nat.le_of_ble_eq_true rfl)
  have K2 : Keep h0 h2 [] := (K1).wr W2 (Or.inr sz_b1)
  have N2 := Fr.snoc X2 N0 g_b1
  obtain ⟨cl3, Ar3, q3, S3, N3_, H3, G3⟩ := V2
  obtain ⟨T3, h3, X3, e3, W3, st3⟩ := stD X2 hx hZ e2 Ar3 (j := (1 : Int32)) (inb_of S3 ⟨by decide, by decide⟩) (g := (mkF m 23 #[.val (.int (1 : Int32)), .val (.double d2), .second, .val (.double d3), .second] [(.double d3), (.int (1 : Int32)), (.ref b1), (.ref b1)])) rfl rfl (hb hby d1_23)
  have V3 := Arv.set Ar3 q3 S3 N3_ H3 G3 rfl W3 1 rfl (Nat.le_of_ble_eq_true rfl)
  have K3 : Keep h0 h3 [] := (K2).wr W3 (Or.inr sz_b1)
  have N3 := Fr.snoc X3 N2 g_b1
  obtain ⟨fs, hr, hrun, hended, hW, hsame⟩ := X3.leave (v := some (.ref b1)) (fun h => by rw [Bd.returns] at h; cases h)
  refine ⟨_, _, pre0 _ ?_, hrun, hended, _, _, rfl, ?_, ⟨_, rfl⟩, hW, hsame.mono (by decide) (by decide)⟩
  · show Steps p.tables e below (s₁.setTop (mkF m 0 #[.val (.int (1 : Int32)), .val (.double d2), .second, .val (.double d3), .second] [])) _
    refine XS.iloadN X0.here hx rfl (hb hby d1_0) rfl ?_
    show Steps p.tables e below (s₁.setTop (mkF m 1 #[.val (.int (1 : Int32)), .val (.double d2), .second, .val (.double d3), .second] [(.int (1 : Int32))])) _
    refine XS.ifYes X0.here hx rfl (pc0 := 1) (pc' := 8) rfl (hb hby d1_1) rfl ((if0 _ _).trans (feq (by decide : ¬ ((1 : Int32) = (0 : Int32)))).2) (by decide) (by decide) ?_
    show Steps p.tables e below (s₁.setTop (mkF m 8 #[.val (.int (1 : Int32)), .val (.double d2), .second, .val (.double d3), .second] [])) _
    refine XS.iloadN X0.here hx rfl (hb hby d1_8) rfl ?_
    show Steps p.tables e below (s₁.setTop (mkF m 9 #[.val (.int (1 : Int32)), .val (.double d2), .second, .val (.double d3), .second] [(.int (1 : Int32))])) _
    refine XS.iconst X0.here hx rfl (hb hby d1_9) ?_
    show Steps p.tables e below (s₁.setTop (mkF m 10 #[.val (.int (1 : Int32)), .val (.double d2), .second, .val (.double d3), .second] [(.int (1 : Int32)), (.int (1 : Int32))])) _
    refine XS.icmpNo X0.here hx rfl (hb hby d1_10) rfl (teq (rfl : (1 : Int32) = (1 : Int32))).2 ?_
    show Steps p.tables e below (s₁.setTop (mkF m 13 #[.val (.int (1 : Int32)), .val (.double d2), .second, .val (.double d3), .second] [])) _
    refine XS.iconst X0.here hx rfl (hb hby d1_13) ?_
    show Steps p.tables e below (s₁.setTop (mkF m 14 #[.val (.int (1 : Int32)), .val (.double d2), .second, .val (.double d3), .second] [(.int (2 : Int32))])) _
    refine st1 _ ?_
    show Steps p.tables e below (T1.setTop (mkF m 16 #[.val (.int (1 : Int32)), .val (.double d2), .second, .val (.double d3), .second] [(.ref b1)])) _
    refine XS.dup X1.here hx rfl (hb hby d1_16) rfl rfl ?_
    show Steps p.tables e below (T1.setTop (mkF m 17 #[.val (.int (1 : Int32)), .val (.double d2), .second, .val (.double d3), .second] [(.ref b1), (.ref b1)])) _
    refine XS.iconst X1.here hx rfl (hb hby d1_17) ?_
    show Steps p.tables e below (T1.setTop (mkF m 18 #[.val (.int (1 : Int32)), .val (.double d2), .second, .val (.double d3), .second] [(.int (0 : Int32)), (.ref b1), (.ref b1)])) _
    refine XS.dloadN X1.here hx rfl (hb hby d1_18) rfl ?_
    show Steps p.tables e below (T1.setTop (mkF m 19 #[.val (.int (1 : Int32)), .val (.double d2), .second, .val (.double d3), .second] [(.double d2), (.int (0 : Int32)), (.ref b1), (.ref b1)])) _
    refine st2 _ ?_
    show Steps p.tables e below (T2.setTop (mkF m 20 #[.val (.int (1 : Int32)), .val (.double d2), .second, .val (.double d3), .second] [(.ref b1)])) _
    refine XS.dup X2.here hx rfl (hb hby d1_20) rfl rfl ?_
    show Steps p.tables e below (T2.setTop (mkF m 21 #[.val (.int (1 : Int32)), .val (.double d2), .second, .val (.double d3), .second] [(.ref b1), (.ref b1)])) _
    refine XS.iconst X2.here hx rfl (hb hby d1_21) ?_
    show Steps p.tables e below (T2.setTop (mkF m 22 #[.val (.int (1 : Int32)), .val (.double d2), .second, .val (.double d3), .second] [(.int (1 : Int32)), (.ref b1), (.ref b1)])) _
    refine XS.dloadN X2.here hx rfl (hb hby d1_22) rfl ?_
    show Steps p.tables e below (T2.setTop (mkF m 23 #[.val (.int (1 : Int32)), .val (.double d2), .second, .val (.double d3), .second] [(.double d3), (.int (1 : Int32)), (.ref b1), (.ref b1)])) _
    refine st3 _ ?_
    show Steps p.tables e below (T3.setTop (mkF m 24 #[.val (.int (1 : Int32)), .val (.double d2), .second, .val (.double d3), .second] [(.ref b1)])) _
    jvm_step X3.here [X3.here.top, hx, (hb hby d1_24), X3.method', Bd.returns, Value.isRef, FieldType.isReference]
    first | (intro acts; rw [hr _ acts rfl rfl rfl]) | rw [hr _ _ rfl rfl rfl]
    exact Steps.refl _
  · show Q_rmC1 Z d2 d3 h0 n0 _ T3.heap _
    rw [e3]
    exact ⟨b1, rfl, N3, own_keep_ext K3, sz_b1, own_arr V3⟩
theorem d1_25 : decode method_2_code 25 = .ok (.iload_n 0, 1) := by decide +kernel
theorem d1_26 : decode method_2_code 26 = .ok (.iconst 2, 1) := by decide +kernel
theorem d1_27 : decode method_2_code 27 = .ok (.if_icmp .ne 23, 3) := by decide +kernel
theorem d1_30 : decode method_2_code 30 = .ok (.iconst 4, 1) := by decide +kernel
theorem d1_31 : decode method_2_code 31 = .ok (.newarray .double, 2) := by decide +kernel
theorem d1_33 : decode method_2_code 33 = .ok (.dup, 1) := by decide +kernel
theorem d1_34 : decode method_2_code 34 = .ok (.iconst 0, 1) := by decide +kernel
theorem d1_35 : decode method_2_code 35 = .ok (.dload_n 1, 1) := by decide +kernel
theorem d1_36 : decode method_2_code 36 = .ok (.dastore, 1) := by decide +kernel
theorem d1_37 : decode method_2_code 37 = .ok (.dup, 1) := by decide +kernel
theorem d1_38 : decode method_2_code 38 = .ok (.iconst 1, 1) := by decide +kernel
theorem d1_39 : decode method_2_code 39 = .ok (.dload_n 3, 1) := by decide +kernel
theorem d1_40 : decode method_2_code 40 = .ok (.dastore, 1) := by decide +kernel
theorem d1_41 : decode method_2_code 41 = .ok (.dup, 1) := by decide +kernel
theorem d1_42 : decode method_2_code 42 = .ok (.iconst 2, 1) := by decide +kernel
theorem d1_43 : decode method_2_code 43 = .ok (.dload_n 3, 1) := by decide +kernel
theorem d1_44 : decode method_2_code 44 = .ok (.dastore, 1) := by decide +kernel
theorem d1_45 : decode method_2_code 45 = .ok (.dup, 1) := by decide +kernel
theorem d1_46 : decode method_2_code 46 = .ok (.iconst 3, 1) := by decide +kernel
theorem d1_47 : decode method_2_code 47 = .ok (.dload_n 1, 1) := by decide +kernel
theorem d1_48 : decode method_2_code 48 = .ok (.dastore, 1) := by decide +kernel
theorem d1_49 : decode method_2_code 49 = .ok (.areturn, 1) := by decide +kernel
theorem pn_rmC2 : plainName "com/example/wellknit/wellknit/LineStringIsEmptyPinLaw" = true := by first | (simp [plainName, overriddenIn]; done) | decide +kernel
theorem ef_rmC2 (m : MethodId) (d2 : UInt64) (d3 : UInt64) : entryFrame m #[(.int (2 : Int32)), (.double d2), (.double d3)] 5 = mkF m 0 #[.val (.int (2 : Int32)), .val (.double d2), .second, .val (.double d3), .second] [] := by first | (simp [entryFrame, mkF, argsToLocals, Value.category]; done) | rfl
def Q_rmC2 (Z : State) (d2 : UInt64) (d3 : UInt64) (h0 : Heap) (n0 : Nat) (v : Option Value) (h : Heap) (L : List Loc) : Prop := ∃ b : Addr, v = some (.ref b) ∧ Fr n0 L ∧ Ext h0 h ∧ h0.size ≤ b ∧ ∃ cl : Cell, Arr Z h b cl .double ∧ cl.slots.size = (4 : Int32).toNatClampNeg
set_option maxRecDepth 65536 in
set_option maxHeartbeats 40000000 in
theorem rmC2 (l : Launch) (Z : State) (a0 : Array Value) (hw : ∀ d ∈ tables_1, d.before a0 Z = true) (ws : List Jvm.Cond) (d2 : UInt64) (d3 : UInt64) (h0 : Heap) (n0 : Nat) (Z0 : n0 ≤ h0.size) :
    MetFree l (⟨"com/example/wellknit/wellknit/LineStringIsEmptyPinLaw", "coords", "(IDD)[D"⟩ : MethodName) (head1 (Jvm.Cond.code (⟨"com/example/wellknit/wellknit/LineStringIsEmptyPinLaw", "coords", "(IDD)[D"⟩ : MethodName) method_2_code 5 (some (.array .double)) :: ws) ({ frames := 0, cells := 1, slots := 4, locals := 0 } : Room)) (fun a U => a = #[(.int (2 : Int32)), (.double d2), (.double d3)] ∧ Z.Warmed39 U.vm ∧ U.heap = h0) (fun _ _ _ _ _ => True) (fun _ U o U' => ∃ v L, o = .returned v ∧ Q_rmC2 Z d2 d3 h0 n0 v U'.heap L ∧ FrameEnd U o U' L ({ frames := 0, cells := 1, slots := 4, locals := 0 } : Room).cells ({ frames := 0, cells := 1, slots := 4, locals := 0 } : Room).slots) := by
  refine MetFree.of_bodySF (plainFor_of_name pn_rmC2) hisR ?_
  intro p e s m args below meth c s₁ Bd hml0 hP hK
  obtain ⟨rfl, hZ, hh⟩ := hP
  have hx := Bd.exec
  have hby := Bd.bytes
  have hml : c.maxLocals = 5 := hml0
  have hown : s.vm.findClass "com/example/wellknit/wellknit/LineStringIsEmptyPinLaw" = some m.cls := findClass_of_methodNamed Bd.named
  have hnm := (name_of_methodNamed Bd.named Bd.method).1
  have X0 : Stand p l e ({ frames := 0, cells := 1, slots := 4, locals := 0 } : Room) s m #[(.int (2 : Int32)), (.double d2), (.double d3)] below meth c s₁ [] 0 0 := Stand.of_body Bd
  have e0 : s₁.heap = h0 := by rw [← hh, Bd.state]; rfl
  have N0 := Fr.nil n0
  have pre0 : ∀ t, Steps p.tables e below (s₁.setTop (mkF m 0 #[.val (.int (2 : Int32)), .val (.double d2), .second, .val (.double d3), .second] [])) t → Steps p.tables e below (s₁.setTop (entryFrame m #[(.int (2 : Int32)), (.double d2), (.double d3)] 5)) t := fun t k => castTop (ef_rmC2 m d2 d3) k
  obtain ⟨T1, h1, k1, X1, e1, E1, A1, st1⟩ := newP X0 hx hZ (hw _ (List.mem_of_getElem? (i := 9) rfl)) e0 (g := (mkF m 31 #[.val (.int (2 : Int32)), .val (.double d2), .second, .val (.double d3), .second] [(.int (4 : Int32))])) rfl (hb hby d1_31) rfl (by decide) (cap := 4) (by decide) (by decide) (by decide) (by decide)
  obtain ⟨b1, g1⟩ : ∃ z, z = h0.size := ⟨_, rfl⟩
  rw [← g1] at A1 st1
  have V_b1 : Arv Z h1 b1 k1 .double (4 : Int32) [(.double 0), (.double 0), (.double 0), (.double 0)] (.double 0) := (Arv.new A1 (by decide)).pad (pad_rep [] (.double 0) 4)
  have g_b1 : n0 ≤ b1 := Nat.le_trans Z0 (Nat.le_of_eq g1.symm)
  have sz_b1 : h0.size ≤ b1 := Nat.le_trans ((Keep.refl h0 [])).1 (Nat.le_of_eq g1.symm)
  have K1 : Keep h0 h1 [] := ((Keep.refl h0 [])).ext E1
  obtain ⟨cl2, Ar2, q2, S2, N2_, H2, G2⟩ := V_b1
  obtain ⟨T2, h2, X2, e2, W2, st2⟩ := stD X1 hx hZ e1 Ar2 (j := (0 : Int32)) (inb_of S2 ⟨by decide, by decide⟩) (g := (mkF m 36 #[.val (.int (2 : Int32)), .val (.double d2), .second, .val (.double d3), .second] [(.double d2), (.int (0 : Int32)), (.ref b1), (.ref b1)])) rfl rfl (hb hby d1_36)
  have V2 := Arv.set Ar2 q2 S2 N2_ H2 G2 rfl W2 0 rfl (Nat.le_of_ble_eq_true rfl)
  have K2 : Keep h0 h2 [] := (K1).wr W2 (Or.inr sz_b1)
  have N2 := Fr.snoc X2 N0 g_b1
  obtain ⟨cl3, Ar3, q3, S3, N3_, H3, G3⟩ := V2
  obtain ⟨T3, h3, X3, e3, W3, st3⟩ := stD X2 hx hZ e2 Ar3 (j := (1 : Int32)) (inb_of S3 ⟨by decide, by decide⟩) (g := (mkF m 40 #[.val (.int (2 : Int32)), .val (.double d2), .second, .val (.double d3), .second] [(.double d3), (.int (1 : Int32)), (.ref b1), (.ref b1)])) rfl rfl (hb hby d1_40)
  have V3 := Arv.set Ar3 q3 S3 N3_ H3 G3 rfl W3 1 rfl (Nat.le_of_ble_eq_true rfl)
  have K3 : Keep h0 h3 [] := (K2).wr W3 (Or.inr sz_b1)
  have N3 := Fr.snoc X3 N2 g_b1
  obtain ⟨cl4, Ar4, q4, S4, N4_, H4, G4⟩ := V3
  obtain ⟨T4, h4, X4, e4, W4, st4⟩ := stD X3 hx hZ e3 Ar4 (j := (2 : Int32)) (inb_of S4 ⟨by decide, by decide⟩) (g := (mkF m 44 #[.val (.int (2 : Int32)), .val (.double d2), .second, .val (.double d3), .second] [(.double d3), (.int (2 : Int32)), (.ref b1), (.ref b1)])) rfl rfl (hb hby d1_44)
  have V4 := Arv.set Ar4 q4 S4 N4_ H4 G4 rfl W4 2 rfl (Nat.le_of_ble_eq_true rfl)
  have K4 : Keep h0 h4 [] := (K3).wr W4 (Or.inr sz_b1)
  have N4 := Fr.snoc X4 N3 g_b1
  obtain ⟨cl5, Ar5, q5, S5, N5_, H5, G5⟩ := V4
  obtain ⟨T5, h5, X5, e5, W5, st5⟩ := stD X4 hx hZ e4 Ar5 (j := (3 : Int32)) (inb_of S5 ⟨by decide, by decide⟩) (g := (mkF m 48 #[.val (.int (2 : Int32)), .val (.double d2), .second, .val (.double d3), .second] [(.double d2), (.int (3 : Int32)), (.ref b1), (.ref b1)])) rfl rfl (hb hby d1_48)
  have V5 := Arv.set Ar5 q5 S5 N5_ H5 G5 rfl W5 3 rfl (Nat.le_of_ble_eq_true rfl)
  have K5 : Keep h0 h5 [] := (K4).wr W5 (Or.inr sz_b1)
  have N5 := Fr.snoc X5 N4 g_b1
  obtain ⟨fs, hr, hrun, hended, hW, hsame⟩ := X5.leave (v := some (.ref b1)) (fun h => by rw [Bd.returns] at h; cases h)
  refine ⟨_, _, pre0 _ ?_, hrun, hended, _, _, rfl, ?_, ⟨_, rfl⟩, hW, hsame.mono (by decide) (by decide)⟩
  · show Steps p.tables e below (s₁.setTop (mkF m 0 #[.val (.int (2 : Int32)), .val (.double d2), .second, .val (.double d3), .second] [])) _
    refine XS.iloadN X0.here hx rfl (hb hby d1_0) rfl ?_
    show Steps p.tables e below (s₁.setTop (mkF m 1 #[.val (.int (2 : Int32)), .val (.double d2), .second, .val (.double d3), .second] [(.int (2 : Int32))])) _
    refine XS.ifYes X0.here hx rfl (pc0 := 1) (pc' := 8) rfl (hb hby d1_1) rfl ((if0 _ _).trans (feq (by decide : ¬ ((2 : Int32) = (0 : Int32)))).2) (by decide) (by decide) ?_
    show Steps p.tables e below (s₁.setTop (mkF m 8 #[.val (.int (2 : Int32)), .val (.double d2), .second, .val (.double d3), .second] [])) _
    refine XS.iloadN X0.here hx rfl (hb hby d1_8) rfl ?_
    show Steps p.tables e below (s₁.setTop (mkF m 9 #[.val (.int (2 : Int32)), .val (.double d2), .second, .val (.double d3), .second] [(.int (2 : Int32))])) _
    refine XS.iconst X0.here hx rfl (hb hby d1_9) ?_
    show Steps p.tables e below (s₁.setTop (mkF m 10 #[.val (.int (2 : Int32)), .val (.double d2), .second, .val (.double d3), .second] [(.int (1 : Int32)), (.int (2 : Int32))])) _
    refine XS.icmpYes X0.here hx rfl (pc0 := 10) (pc' := 25) rfl (hb hby d1_10) rfl (feq (by decide : ¬ ((2 : Int32) = (1 : Int32)))).2 (by decide) (by decide) ?_
    show Steps p.tables e below (s₁.setTop (mkF m 25 #[.val (.int (2 : Int32)), .val (.double d2), .second, .val (.double d3), .second] [])) _
    refine XS.iloadN X0.here hx rfl (hb hby d1_25) rfl ?_
    show Steps p.tables e below (s₁.setTop (mkF m 26 #[.val (.int (2 : Int32)), .val (.double d2), .second, .val (.double d3), .second] [(.int (2 : Int32))])) _
    refine XS.iconst X0.here hx rfl (hb hby d1_26) ?_
    show Steps p.tables e below (s₁.setTop (mkF m 27 #[.val (.int (2 : Int32)), .val (.double d2), .second, .val (.double d3), .second] [(.int (2 : Int32)), (.int (2 : Int32))])) _
    refine XS.icmpNo X0.here hx rfl (hb hby d1_27) rfl (teq (rfl : (2 : Int32) = (2 : Int32))).2 ?_
    show Steps p.tables e below (s₁.setTop (mkF m 30 #[.val (.int (2 : Int32)), .val (.double d2), .second, .val (.double d3), .second] [])) _
    refine XS.iconst X0.here hx rfl (hb hby d1_30) ?_
    show Steps p.tables e below (s₁.setTop (mkF m 31 #[.val (.int (2 : Int32)), .val (.double d2), .second, .val (.double d3), .second] [(.int (4 : Int32))])) _
    refine st1 _ ?_
    show Steps p.tables e below (T1.setTop (mkF m 33 #[.val (.int (2 : Int32)), .val (.double d2), .second, .val (.double d3), .second] [(.ref b1)])) _
    refine XS.dup X1.here hx rfl (hb hby d1_33) rfl rfl ?_
    show Steps p.tables e below (T1.setTop (mkF m 34 #[.val (.int (2 : Int32)), .val (.double d2), .second, .val (.double d3), .second] [(.ref b1), (.ref b1)])) _
    refine XS.iconst X1.here hx rfl (hb hby d1_34) ?_
    show Steps p.tables e below (T1.setTop (mkF m 35 #[.val (.int (2 : Int32)), .val (.double d2), .second, .val (.double d3), .second] [(.int (0 : Int32)), (.ref b1), (.ref b1)])) _
    refine XS.dloadN X1.here hx rfl (hb hby d1_35) rfl ?_
    show Steps p.tables e below (T1.setTop (mkF m 36 #[.val (.int (2 : Int32)), .val (.double d2), .second, .val (.double d3), .second] [(.double d2), (.int (0 : Int32)), (.ref b1), (.ref b1)])) _
    refine st2 _ ?_
    show Steps p.tables e below (T2.setTop (mkF m 37 #[.val (.int (2 : Int32)), .val (.double d2), .second, .val (.double d3), .second] [(.ref b1)])) _
    refine XS.dup X2.here hx rfl (hb hby d1_37) rfl rfl ?_
    show Steps p.tables e below (T2.setTop (mkF m 38 #[.val (.int (2 : Int32)), .val (.double d2), .second, .val (.double d3), .second] [(.ref b1), (.ref b1)])) _
    refine XS.iconst X2.here hx rfl (hb hby d1_38) ?_
    show Steps p.tables e below (T2.setTop (mkF m 39 #[.val (.int (2 : Int32)), .val (.double d2), .second, .val (.double d3), .second] [(.int (1 : Int32)), (.ref b1), (.ref b1)])) _
    refine XS.dloadN X2.here hx rfl (hb hby d1_39) rfl ?_
    show Steps p.tables e below (T2.setTop (mkF m 40 #[.val (.int (2 : Int32)), .val (.double d2), .second, .val (.double d3), .second] [(.double d3), (.int (1 : Int32)), (.ref b1), (.ref b1)])) _
    refine st3 _ ?_
    show Steps p.tables e below (T3.setTop (mkF m 41 #[.val (.int (2 : Int32)), .val (.double d2), .second, .val (.double d3), .second] [(.ref b1)])) _
    refine XS.dup X3.here hx rfl (hb hby d1_41) rfl rfl ?_
    show Steps p.tables e below (T3.setTop (mkF m 42 #[.val (.int (2 : Int32)), .val (.double d2), .second, .val (.double d3), .second] [(.ref b1), (.ref b1)])) _
    refine XS.iconst X3.here hx rfl (hb hby d1_42) ?_
    show Steps p.tables e below (T3.setTop (mkF m 43 #[.val (.int (2 : Int32)), .val (.double d2), .second, .val (.double d3), .second] [(.int (2 : Int32)), (.ref b1), (.ref b1)])) _
    refine XS.dloadN X3.here hx rfl (hb hby d1_43) rfl ?_
    show Steps p.tables e below (T3.setTop (mkF m 44 #[.val (.int (2 : Int32)), .val (.double d2), .second, .val (.double d3), .second] [(.double d3), (.int (2 : Int32)), (.ref b1), (.ref b1)])) _
    refine st4 _ ?_
    show Steps p.tables e below (T4.setTop (mkF m 45 #[.val (.int (2 : Int32)), .val (.double d2), .second, .val (.double d3), .second] [(.ref b1)])) _
    refine XS.dup X4.here hx rfl (hb hby d1_45) rfl rfl ?_
    show Steps p.tables e below (T4.setTop (mkF m 46 #[.val (.int (2 : Int32)), .val (.double d2), .second, .val (.double d3), .second] [(.ref b1), (.ref b1)])) _
    refine XS.iconst X4.here hx rfl (hb hby d1_46) ?_
    show Steps p.tables e below (T4.setTop (mkF m 47 #[.val (.int (2 : Int32)), .val (.double d2), .second, .val (.double d3), .second] [(.int (3 : Int32)), (.ref b1), (.ref b1)])) _
    refine XS.dloadN X4.here hx rfl (hb hby d1_47) rfl ?_
    show Steps p.tables e below (T4.setTop (mkF m 48 #[.val (.int (2 : Int32)), .val (.double d2), .second, .val (.double d3), .second] [(.double d2), (.int (3 : Int32)), (.ref b1), (.ref b1)])) _
    refine st5 _ ?_
    show Steps p.tables e below (T5.setTop (mkF m 49 #[.val (.int (2 : Int32)), .val (.double d2), .second, .val (.double d3), .second] [(.ref b1)])) _
    jvm_step X5.here [X5.here.top, hx, (hb hby d1_49), X5.method', Bd.returns, Value.isRef, FieldType.isReference]
    first | (intro acts; rw [hr _ acts rfl rfl rfl]) | rw [hr _ _ rfl rfl rfl]
    exact Steps.refl _
  · show Q_rmC2 Z d2 d3 h0 n0 _ T5.heap _
    rw [e5]
    exact ⟨b1, rfl, N5, own_keep_ext K5, sz_b1, own_arr V5⟩
theorem d1_50 : decode method_2_code 50 = .ok (.bipush 6, 2) := by decide +kernel
theorem d1_52 : decode method_2_code 52 = .ok (.newarray .double, 2) := by decide +kernel
theorem d1_54 : decode method_2_code 54 = .ok (.dup, 1) := by decide +kernel
theorem d1_55 : decode method_2_code 55 = .ok (.iconst 0, 1) := by decide +kernel
theorem d1_56 : decode method_2_code 56 = .ok (.dload_n 1, 1) := by decide +kernel
theorem d1_57 : decode method_2_code 57 = .ok (.dastore, 1) := by decide +kernel
theorem d1_58 : decode method_2_code 58 = .ok (.dup, 1) := by decide +kernel
theorem d1_59 : decode method_2_code 59 = .ok (.iconst 1, 1) := by decide +kernel
theorem d1_60 : decode method_2_code 60 = .ok (.dload_n 3, 1) := by decide +kernel
theorem d1_61 : decode method_2_code 61 = .ok (.dastore, 1) := by decide +kernel
theorem d1_62 : decode method_2_code 62 = .ok (.dup, 1) := by decide +kernel
theorem d1_63 : decode method_2_code 63 = .ok (.iconst 2, 1) := by decide +kernel
theorem d1_64 : decode method_2_code 64 = .ok (.dload_n 1, 1) := by decide +kernel
theorem d1_65 : decode method_2_code 65 = .ok (.dastore, 1) := by decide +kernel
theorem d1_66 : decode method_2_code 66 = .ok (.dup, 1) := by decide +kernel
theorem d1_67 : decode method_2_code 67 = .ok (.iconst 3, 1) := by decide +kernel
theorem d1_68 : decode method_2_code 68 = .ok (.dload_n 3, 1) := by decide +kernel
theorem d1_69 : decode method_2_code 69 = .ok (.dastore, 1) := by decide +kernel
theorem d1_70 : decode method_2_code 70 = .ok (.dup, 1) := by decide +kernel
theorem d1_71 : decode method_2_code 71 = .ok (.iconst 4, 1) := by decide +kernel
theorem d1_72 : decode method_2_code 72 = .ok (.dload_n 3, 1) := by decide +kernel
theorem d1_73 : decode method_2_code 73 = .ok (.dastore, 1) := by decide +kernel
theorem d1_74 : decode method_2_code 74 = .ok (.dup, 1) := by decide +kernel
theorem d1_75 : decode method_2_code 75 = .ok (.iconst 5, 1) := by decide +kernel
theorem d1_76 : decode method_2_code 76 = .ok (.dload_n 1, 1) := by decide +kernel
theorem d1_77 : decode method_2_code 77 = .ok (.dastore, 1) := by decide +kernel
theorem d1_78 : decode method_2_code 78 = .ok (.areturn, 1) := by decide +kernel
theorem pn_rmC3 : plainName "com/example/wellknit/wellknit/LineStringIsEmptyPinLaw" = true := by first | (simp [plainName, overriddenIn]; done) | decide +kernel
theorem ef_rmC3 (m : MethodId) (d2 : UInt64) (d3 : UInt64) : entryFrame m #[(.int (3 : Int32)), (.double d2), (.double d3)] 5 = mkF m 0 #[.val (.int (3 : Int32)), .val (.double d2), .second, .val (.double d3), .second] [] := by first | (simp [entryFrame, mkF, argsToLocals, Value.category]; done) | rfl
def Q_rmC3 (Z : State) (d2 : UInt64) (d3 : UInt64) (h0 : Heap) (n0 : Nat) (v : Option Value) (h : Heap) (L : List Loc) : Prop := ∃ b : Addr, v = some (.ref b) ∧ Fr n0 L ∧ Ext h0 h ∧ h0.size ≤ b ∧ ∃ cl : Cell, Arr Z h b cl .double ∧ cl.slots.size = (6 : Int32).toNatClampNeg
set_option maxRecDepth 65536 in
set_option maxHeartbeats 40000000 in
theorem rmC3 (l : Launch) (Z : State) (a0 : Array Value) (hw : ∀ d ∈ tables_1, d.before a0 Z = true) (ws : List Jvm.Cond) (d2 : UInt64) (d3 : UInt64) (h0 : Heap) (n0 : Nat) (Z0 : n0 ≤ h0.size) :
    MetFree l (⟨"com/example/wellknit/wellknit/LineStringIsEmptyPinLaw", "coords", "(IDD)[D"⟩ : MethodName) (head1 (Jvm.Cond.code (⟨"com/example/wellknit/wellknit/LineStringIsEmptyPinLaw", "coords", "(IDD)[D"⟩ : MethodName) method_2_code 5 (some (.array .double)) :: ws) ({ frames := 0, cells := 1, slots := 6, locals := 0 } : Room)) (fun a U => a = #[(.int (3 : Int32)), (.double d2), (.double d3)] ∧ Z.Warmed39 U.vm ∧ U.heap = h0) (fun _ _ _ _ _ => True) (fun _ U o U' => ∃ v L, o = .returned v ∧ Q_rmC3 Z d2 d3 h0 n0 v U'.heap L ∧ FrameEnd U o U' L ({ frames := 0, cells := 1, slots := 6, locals := 0 } : Room).cells ({ frames := 0, cells := 1, slots := 6, locals := 0 } : Room).slots) := by
  refine MetFree.of_bodySF (plainFor_of_name pn_rmC3) hisR ?_
  intro p e s m args below meth c s₁ Bd hml0 hP hK
  obtain ⟨rfl, hZ, hh⟩ := hP
  have hx := Bd.exec
  have hby := Bd.bytes
  have hml : c.maxLocals = 5 := hml0
  have hown : s.vm.findClass "com/example/wellknit/wellknit/LineStringIsEmptyPinLaw" = some m.cls := findClass_of_methodNamed Bd.named
  have hnm := (name_of_methodNamed Bd.named Bd.method).1
  have X0 : Stand p l e ({ frames := 0, cells := 1, slots := 6, locals := 0 } : Room) s m #[(.int (3 : Int32)), (.double d2), (.double d3)] below meth c s₁ [] 0 0 := Stand.of_body Bd
  have e0 : s₁.heap = h0 := by rw [← hh, Bd.state]; rfl
  have N0 := Fr.nil n0
  have pre0 : ∀ t, Steps p.tables e below (s₁.setTop (mkF m 0 #[.val (.int (3 : Int32)), .val (.double d2), .second, .val (.double d3), .second] [])) t → Steps p.tables e below (s₁.setTop (entryFrame m #[(.int (3 : Int32)), (.double d2), (.double d3)] 5)) t := fun t k => castTop (ef_rmC3 m d2 d3) k
  obtain ⟨T1, h1, k1, X1, e1, E1, A1, st1⟩ := newP X0 hx hZ (hw _ (List.mem_of_getElem? (i := 9) rfl)) e0 (g := (mkF m 52 #[.val (.int (3 : Int32)), .val (.double d2), .second, .val (.double d3), .second] [(.int (6 : Int32))])) rfl (hb hby d1_52) rfl (by decide) (cap := 6) (by decide) (by decide) (by decide) (by decide)
  obtain ⟨b1, g1⟩ : ∃ z, z = h0.size := ⟨_, rfl⟩
  rw [← g1] at A1 st1
  have V_b1 : Arv Z h1 b1 k1 .double (6 : Int32) [(.double 0), (.double 0), (.double 0), (.double 0), (.double 0), (.double 0)] (.double 0) := (Arv.new A1 (by decide)).pad (pad_rep [] (.double 0) 6)
  have g_b1 : n0 ≤ b1 := Nat.le_trans Z0 (Nat.le_of_eq g1.symm)
  have sz_b1 : h0.size ≤ b1 := Nat.le_trans ((Keep.refl h0 [])).1 (Nat.le_of_eq g1.symm)
  have K1 : Keep h0 h1 [] := ((Keep.refl h0 [])).ext E1
  obtain ⟨cl2, Ar2, q2, S2, N2_, H2, G2⟩ := V_b1
  obtain ⟨T2, h2, X2, e2, W2, st2⟩ := stD X1 hx hZ e1 Ar2 (j := (0 : Int32)) (inb_of S2 ⟨by decide, by decide⟩) (g := (mkF m 57 #[.val (.int (3 : Int32)), .val (.double d2), .second, .val (.double d3), .second] [(.double d2), (.int (0 : Int32)), (.ref b1), (.ref b1)])) rfl rfl (hb hby d1_57)
  have V2 := Arv.set Ar2 q2 S2 N2_ H2 G2 rfl W2 0 rfl (Nat.le_of_ble_eq_true rfl)
  have K2 : Keep h0 h2 [] := (K1).wr W2 (Or.inr sz_b1)
  have N2 := Fr.snoc X2 N0 g_b1
  obtain ⟨cl3, Ar3, q3, S3, N3_, H3, G3⟩ := V2
  obtain ⟨T3, h3, X3, e3, W3, st3⟩ := stD X2 hx hZ e2 Ar3 (j := (1 : Int32)) (inb_of S3 ⟨by decide, by decide⟩) (g := (mkF m 61 #[.val (.int (3 : Int32)), .val (.double d2), .second, .val (.double d3), .second] [(.double d3), (.int (1 : Int32)), (.ref b1), (.ref b1)])) rfl rfl (hb hby d1_61)
  have V3 := Arv.set Ar3 q3 S3 N3_ H3 G3 rfl W3 1 rfl (Nat.le_of_ble_eq_true rfl)
  have K3 : Keep h0 h3 [] := (K2).wr W3 (Or.inr sz_b1)
  have N3 := Fr.snoc X3 N2 g_b1
  obtain ⟨cl4, Ar4, q4, S4, N4_, H4, G4⟩ := V3
  obtain ⟨T4, h4, X4, e4, W4, st4⟩ := stD X3 hx hZ e3 Ar4 (j := (2 : Int32)) (inb_of S4 ⟨by decide, by decide⟩) (g := (mkF m 65 #[.val (.int (3 : Int32)), .val (.double d2), .second, .val (.double d3), .second] [(.double d2), (.int (2 : Int32)), (.ref b1), (.ref b1)])) rfl rfl (hb hby d1_65)
  have V4 := Arv.set Ar4 q4 S4 N4_ H4 G4 rfl W4 2 rfl (Nat.le_of_ble_eq_true rfl)
  have K4 : Keep h0 h4 [] := (K3).wr W4 (Or.inr sz_b1)
  have N4 := Fr.snoc X4 N3 g_b1
  obtain ⟨cl5, Ar5, q5, S5, N5_, H5, G5⟩ := V4
  obtain ⟨T5, h5, X5, e5, W5, st5⟩ := stD X4 hx hZ e4 Ar5 (j := (3 : Int32)) (inb_of S5 ⟨by decide, by decide⟩) (g := (mkF m 69 #[.val (.int (3 : Int32)), .val (.double d2), .second, .val (.double d3), .second] [(.double d3), (.int (3 : Int32)), (.ref b1), (.ref b1)])) rfl rfl (hb hby d1_69)
  have V5 := Arv.set Ar5 q5 S5 N5_ H5 G5 rfl W5 3 rfl (Nat.le_of_ble_eq_true rfl)
  have K5 : Keep h0 h5 [] := (K4).wr W5 (Or.inr sz_b1)
  have N5 := Fr.snoc X5 N4 g_b1
  obtain ⟨cl6, Ar6, q6, S6, N6_, H6, G6⟩ := V5
  obtain ⟨T6, h6, X6, e6, W6, st6⟩ := stD X5 hx hZ e5 Ar6 (j := (4 : Int32)) (inb_of S6 ⟨by decide, by decide⟩) (g := (mkF m 73 #[.val (.int (3 : Int32)), .val (.double d2), .second, .val (.double d3), .second] [(.double d3), (.int (4 : Int32)), (.ref b1), (.ref b1)])) rfl rfl (hb hby d1_73)
  have V6 := Arv.set Ar6 q6 S6 N6_ H6 G6 rfl W6 4 rfl (Nat.le_of_ble_eq_true rfl)
  have K6 : Keep h0 h6 [] := (K5).wr W6 (Or.inr sz_b1)
  have N6 := Fr.snoc X6 N5 g_b1
  obtain ⟨cl7, Ar7, q7, S7, N7_, H7, G7⟩ := V6
  obtain ⟨T7, h7, X7, e7, W7, st7⟩ := stD X6 hx hZ e6 Ar7 (j := (5 : Int32)) (inb_of S7 ⟨by decide, by decide⟩) (g := (mkF m 77 #[.val (.int (3 : Int32)), .val (.double d2), .second, .val (.double d3), .second] [(.double d2), (.int (5 : Int32)), (.ref b1), (.ref b1)])) rfl rfl (hb hby d1_77)
  have V7 := Arv.set Ar7 q7 S7 N7_ H7 G7 rfl W7 5 rfl (Nat.le_of_ble_eq_true rfl)
  have K7 : Keep h0 h7 [] := (K6).wr W7 (Or.inr sz_b1)
  have N7 := Fr.snoc X7 N6 g_b1
  obtain ⟨fs, hr, hrun, hended, hW, hsame⟩ := X7.leave (v := some (.ref b1)) (fun h => by rw [Bd.returns] at h; cases h)
  refine ⟨_, _, pre0 _ ?_, hrun, hended, _, _, rfl, ?_, ⟨_, rfl⟩, hW, hsame.mono (by decide) (by decide)⟩
  · show Steps p.tables e below (s₁.setTop (mkF m 0 #[.val (.int (3 : Int32)), .val (.double d2), .second, .val (.double d3), .second] [])) _
    refine XS.iloadN X0.here hx rfl (hb hby d1_0) rfl ?_
    show Steps p.tables e below (s₁.setTop (mkF m 1 #[.val (.int (3 : Int32)), .val (.double d2), .second, .val (.double d3), .second] [(.int (3 : Int32))])) _
    refine XS.ifYes X0.here hx rfl (pc0 := 1) (pc' := 8) rfl (hb hby d1_1) rfl ((if0 _ _).trans (feq (by decide : ¬ ((3 : Int32) = (0 : Int32)))).2) (by decide) (by decide) ?_
    show Steps p.tables e below (s₁.setTop (mkF m 8 #[.val (.int (3 : Int32)), .val (.double d2), .second, .val (.double d3), .second] [])) _
    refine XS.iloadN X0.here hx rfl (hb hby d1_8) rfl ?_
    show Steps p.tables e below (s₁.setTop (mkF m 9 #[.val (.int (3 : Int32)), .val (.double d2), .second, .val (.double d3), .second] [(.int (3 : Int32))])) _
    refine XS.iconst X0.here hx rfl (hb hby d1_9) ?_
    show Steps p.tables e below (s₁.setTop (mkF m 10 #[.val (.int (3 : Int32)), .val (.double d2), .second, .val (.double d3), .second] [(.int (1 : Int32)), (.int (3 : Int32))])) _
    refine XS.icmpYes X0.here hx rfl (pc0 := 10) (pc' := 25) rfl (hb hby d1_10) rfl (feq (by decide : ¬ ((3 : Int32) = (1 : Int32)))).2 (by decide) (by decide) ?_
    show Steps p.tables e below (s₁.setTop (mkF m 25 #[.val (.int (3 : Int32)), .val (.double d2), .second, .val (.double d3), .second] [])) _
    refine XS.iloadN X0.here hx rfl (hb hby d1_25) rfl ?_
    show Steps p.tables e below (s₁.setTop (mkF m 26 #[.val (.int (3 : Int32)), .val (.double d2), .second, .val (.double d3), .second] [(.int (3 : Int32))])) _
    refine XS.iconst X0.here hx rfl (hb hby d1_26) ?_
    show Steps p.tables e below (s₁.setTop (mkF m 27 #[.val (.int (3 : Int32)), .val (.double d2), .second, .val (.double d3), .second] [(.int (2 : Int32)), (.int (3 : Int32))])) _
    refine XS.icmpYes X0.here hx rfl (pc0 := 27) (pc' := 50) rfl (hb hby d1_27) rfl (feq (by decide : ¬ ((3 : Int32) = (2 : Int32)))).2 (by decide) (by decide) ?_
    show Steps p.tables e below (s₁.setTop (mkF m 50 #[.val (.int (3 : Int32)), .val (.double d2), .second, .val (.double d3), .second] [])) _
    refine XS.bipush X0.here hx rfl (hb hby d1_50) ?_
    show Steps p.tables e below (s₁.setTop (mkF m 52 #[.val (.int (3 : Int32)), .val (.double d2), .second, .val (.double d3), .second] [(.int (6 : Int32))])) _
    refine st1 _ ?_
    show Steps p.tables e below (T1.setTop (mkF m 54 #[.val (.int (3 : Int32)), .val (.double d2), .second, .val (.double d3), .second] [(.ref b1)])) _
    refine XS.dup X1.here hx rfl (hb hby d1_54) rfl rfl ?_
    show Steps p.tables e below (T1.setTop (mkF m 55 #[.val (.int (3 : Int32)), .val (.double d2), .second, .val (.double d3), .second] [(.ref b1), (.ref b1)])) _
    refine XS.iconst X1.here hx rfl (hb hby d1_55) ?_
    show Steps p.tables e below (T1.setTop (mkF m 56 #[.val (.int (3 : Int32)), .val (.double d2), .second, .val (.double d3), .second] [(.int (0 : Int32)), (.ref b1), (.ref b1)])) _
    refine XS.dloadN X1.here hx rfl (hb hby d1_56) rfl ?_
    show Steps p.tables e below (T1.setTop (mkF m 57 #[.val (.int (3 : Int32)), .val (.double d2), .second, .val (.double d3), .second] [(.double d2), (.int (0 : Int32)), (.ref b1), (.ref b1)])) _
    refine st2 _ ?_
    show Steps p.tables e below (T2.setTop (mkF m 58 #[.val (.int (3 : Int32)), .val (.double d2), .second, .val (.double d3), .second] [(.ref b1)])) _
    refine XS.dup X2.here hx rfl (hb hby d1_58) rfl rfl ?_
    show Steps p.tables e below (T2.setTop (mkF m 59 #[.val (.int (3 : Int32)), .val (.double d2), .second, .val (.double d3), .second] [(.ref b1), (.ref b1)])) _
    refine XS.iconst X2.here hx rfl (hb hby d1_59) ?_
    show Steps p.tables e below (T2.setTop (mkF m 60 #[.val (.int (3 : Int32)), .val (.double d2), .second, .val (.double d3), .second] [(.int (1 : Int32)), (.ref b1), (.ref b1)])) _
    refine XS.dloadN X2.here hx rfl (hb hby d1_60) rfl ?_
    show Steps p.tables e below (T2.setTop (mkF m 61 #[.val (.int (3 : Int32)), .val (.double d2), .second, .val (.double d3), .second] [(.double d3), (.int (1 : Int32)), (.ref b1), (.ref b1)])) _
    refine st3 _ ?_
    show Steps p.tables e below (T3.setTop (mkF m 62 #[.val (.int (3 : Int32)), .val (.double d2), .second, .val (.double d3), .second] [(.ref b1)])) _
    refine XS.dup X3.here hx rfl (hb hby d1_62) rfl rfl ?_
    show Steps p.tables e below (T3.setTop (mkF m 63 #[.val (.int (3 : Int32)), .val (.double d2), .second, .val (.double d3), .second] [(.ref b1), (.ref b1)])) _
    refine XS.iconst X3.here hx rfl (hb hby d1_63) ?_
    show Steps p.tables e below (T3.setTop (mkF m 64 #[.val (.int (3 : Int32)), .val (.double d2), .second, .val (.double d3), .second] [(.int (2 : Int32)), (.ref b1), (.ref b1)])) _
    refine XS.dloadN X3.here hx rfl (hb hby d1_64) rfl ?_
    show Steps p.tables e below (T3.setTop (mkF m 65 #[.val (.int (3 : Int32)), .val (.double d2), .second, .val (.double d3), .second] [(.double d2), (.int (2 : Int32)), (.ref b1), (.ref b1)])) _
    refine st4 _ ?_
    show Steps p.tables e below (T4.setTop (mkF m 66 #[.val (.int (3 : Int32)), .val (.double d2), .second, .val (.double d3), .second] [(.ref b1)])) _
    refine XS.dup X4.here hx rfl (hb hby d1_66) rfl rfl ?_
    show Steps p.tables e below (T4.setTop (mkF m 67 #[.val (.int (3 : Int32)), .val (.double d2), .second, .val (.double d3), .second] [(.ref b1), (.ref b1)])) _
    refine XS.iconst X4.here hx rfl (hb hby d1_67) ?_
    show Steps p.tables e below (T4.setTop (mkF m 68 #[.val (.int (3 : Int32)), .val (.double d2), .second, .val (.double d3), .second] [(.int (3 : Int32)), (.ref b1), (.ref b1)])) _
    refine XS.dloadN X4.here hx rfl (hb hby d1_68) rfl ?_
    show Steps p.tables e below (T4.setTop (mkF m 69 #[.val (.int (3 : Int32)), .val (.double d2), .second, .val (.double d3), .second] [(.double d3), (.int (3 : Int32)), (.ref b1), (.ref b1)])) _
    refine st5 _ ?_
    show Steps p.tables e below (T5.setTop (mkF m 70 #[.val (.int (3 : Int32)), .val (.double d2), .second, .val (.double d3), .second] [(.ref b1)])) _
    refine XS.dup X5.here hx rfl (hb hby d1_70) rfl rfl ?_
    show Steps p.tables e below (T5.setTop (mkF m 71 #[.val (.int (3 : Int32)), .val (.double d2), .second, .val (.double d3), .second] [(.ref b1), (.ref b1)])) _
    refine XS.iconst X5.here hx rfl (hb hby d1_71) ?_
    show Steps p.tables e below (T5.setTop (mkF m 72 #[.val (.int (3 : Int32)), .val (.double d2), .second, .val (.double d3), .second] [(.int (4 : Int32)), (.ref b1), (.ref b1)])) _
    refine XS.dloadN X5.here hx rfl (hb hby d1_72) rfl ?_
    show Steps p.tables e below (T5.setTop (mkF m 73 #[.val (.int (3 : Int32)), .val (.double d2), .second, .val (.double d3), .second] [(.double d3), (.int (4 : Int32)), (.ref b1), (.ref b1)])) _
    refine st6 _ ?_
    show Steps p.tables e below (T6.setTop (mkF m 74 #[.val (.int (3 : Int32)), .val (.double d2), .second, .val (.double d3), .second] [(.ref b1)])) _
    refine XS.dup X6.here hx rfl (hb hby d1_74) rfl rfl ?_
    show Steps p.tables e below (T6.setTop (mkF m 75 #[.val (.int (3 : Int32)), .val (.double d2), .second, .val (.double d3), .second] [(.ref b1), (.ref b1)])) _
    refine XS.iconst X6.here hx rfl (hb hby d1_75) ?_
    show Steps p.tables e below (T6.setTop (mkF m 76 #[.val (.int (3 : Int32)), .val (.double d2), .second, .val (.double d3), .second] [(.int (5 : Int32)), (.ref b1), (.ref b1)])) _
    refine XS.dloadN X6.here hx rfl (hb hby d1_76) rfl ?_
    show Steps p.tables e below (T6.setTop (mkF m 77 #[.val (.int (3 : Int32)), .val (.double d2), .second, .val (.double d3), .second] [(.double d2), (.int (5 : Int32)), (.ref b1), (.ref b1)])) _
    refine st7 _ ?_
    show Steps p.tables e below (T7.setTop (mkF m 78 #[.val (.int (3 : Int32)), .val (.double d2), .second, .val (.double d3), .second] [(.ref b1)])) _
    jvm_step X7.here [X7.here.top, hx, (hb hby d1_78), X7.method', Bd.returns, Value.isRef, FieldType.isReference]
    first | (intro acts; rw [hr _ acts rfl rfl rfl]) | rw [hr _ _ rfl rfl rfl]
    exact Steps.refl _
  · show Q_rmC3 Z d2 d3 h0 n0 _ T7.heap _
    rw [e7]
    exact ⟨b1, rfl, N7, own_keep_ext K7, sz_b1, own_arr V7⟩
theorem d3_0 : decode prog_2_method_1_code 0 = .ok (.aload_n 0, 1) := by decide +kernel
theorem d3_1 : decode prog_2_method_1_code 1 = .ok (.invokespecial 1, 3) := by decide +kernel
theorem d3_4 : decode prog_2_method_1_code 4 = .ok (.aload_n 0, 1) := by decide +kernel
theorem d3_5 : decode prog_2_method_1_code 5 = .ok (.iload_n 1, 1) := by decide +kernel
theorem d3_6 : decode prog_2_method_1_code 6 = .ok (.putfield 7, 3) := by decide +kernel
theorem d3_9 : decode prog_2_method_1_code 9 = .ok (.return_, 1) := by decide +kernel
theorem pn_rmG : plainName "com/example/wellknit/wellknit/Geometry" = true := by first | (simp [plainName, overriddenIn]; done) | decide +kernel
theorem ef_rmG (m : MethodId) (a1 : Addr) (p2 : Int32) : entryFrame m #[(.ref a1), (.int p2)] 2 = mkF m 0 #[.val (.ref a1), .val (.int p2)] [] := by first | (simp [entryFrame, mkF, argsToLocals, Value.category]; done) | rfl
def Q_rmG (Z : State) (a1 : Addr) (p2 : Int32) (h0 : Heap) (n0 : Nat) (v : Option Value) (h : Heap) (L : List Loc) : Prop := v = none ∧ Fr n0 L ∧ Keep h0 h [a1] ∧ Exa Z h a1 "com/example/wellknit/wellknit/LineString" ∧ ∀ v : Value, Fld Z h0 a1 "com/example/wellknit/wellknit/LineString" "coordinates" "[D" v → Fld Z h a1 "com/example/wellknit/wellknit/LineString" "coordinates" "[D" v
set_option maxRecDepth 65536 in
set_option maxHeartbeats 40000000 in
theorem rmG (l : Launch) (Z : State) (a0 : Array Value) (hw : ∀ d ∈ tables_1, d.before a0 Z = true) (ws : List Jvm.Cond) (a1 : Addr) (p2 : Int32) (h0 : Heap) (n0 : Nat) (Z0 : n0 ≤ h0.size) (E_a1 : Exa Z h0 a1 "com/example/wellknit/wellknit/LineString") (F_1 : Fld Z h0 a1 "com/example/wellknit/wellknit/Geometry" "srid" "I" (.int (0 : Int32))) (g_a1 : n0 ≤ a1) :
    MetFree l (⟨"com/example/wellknit/wellknit/Geometry", "<init>", "(I)V"⟩ : MethodName) (head1 (Jvm.Cond.code (⟨"com/example/wellknit/wellknit/Geometry", "<init>", "(I)V"⟩ : MethodName) prog_2_method_1_code 2 none :: ws) ({ frames := 1, cells := 0, slots := 0, locals := 12 } : Room)) (fun a U => a = #[(.ref a1), (.int p2)] ∧ Z.Warmed39 U.vm ∧ U.heap = h0) (fun _ _ _ _ _ => True) (fun _ U o U' => ∃ v L, o = .returned v ∧ Q_rmG Z a1 p2 h0 n0 v U'.heap L ∧ FrameEnd U o U' L ({ frames := 1, cells := 0, slots := 0, locals := 12 } : Room).cells ({ frames := 1, cells := 0, slots := 0, locals := 12 } : Room).slots) := by
  refine MetFree.of_bodySF (plainFor_of_name pn_rmG) hisR ?_
  intro p e s m args below meth c s₁ Bd hml0 hP hK
  obtain ⟨rfl, hZ, hh⟩ := hP
  have hx := Bd.exec
  have hby := Bd.bytes
  have hml : c.maxLocals = 2 := hml0
  have hown : s.vm.findClass "com/example/wellknit/wellknit/Geometry" = some m.cls := findClass_of_methodNamed Bd.named
  have hnm := (name_of_methodNamed Bd.named Bd.method).1
  have X0 : Stand p l e ({ frames := 1, cells := 0, slots := 0, locals := 12 } : Room) s m #[(.ref a1), (.int p2)] below meth c s₁ [] 0 0 := Stand.of_body Bd
  have e0 : s₁.heap = h0 := by rw [← hh, Bd.state]; rfl
  have N0 := Fr.nil n0
  have pre0 : ∀ t, Steps p.tables e below (s₁.setTop (mkF m 0 #[.val (.ref a1), .val (.int p2)] [])) t → Steps p.tables e below (s₁.setTop (entryFrame m #[(.ref a1), (.int p2)] 2)) t := fun t k => castTop (ef_rmG m a1 p2) k
  obtain ⟨T1, X1, e1, st1⟩ := initO X0 hx hZ hown (hw _ (List.mem_of_getElem? (i := 18) rfl)) (hw _ (List.mem_of_getElem? (i := 19) rfl)) (hw _ (List.mem_of_getElem? (i := 20) rfl)) e0 (g := (mkF m 1 #[.val (.ref a1), .val (.int p2)] [(.ref a1)])) rfl (by rw [hml]; rfl) rfl (hb hby d3_1) (by decide) (W := 0) (by show 2 * 0 + _ ≤ _; exact Nat.le_of_eq rfl) (by decide)
  obtain ⟨T2, h2, X2, e2, W2, st2⟩ := putF X1 hx hZ hown (host := "") (Or.inl (hw _ (List.mem_of_getElem? (i := 21) rfl))) Via.refl e1 F_1 E_a1 (Or.inr ⟨(hw _ (List.mem_of_getElem? (i := 22) rfl)), rfl, hnm⟩) (hw _ (List.mem_of_getElem? (i := 3) rfl)) (ty := .int) (by decide) rfl rfl (g := (mkF m 6 #[.val (.ref a1), .val (.int p2)] [(.int p2), (.ref a1)])) rfl rfl (hb hby d3_6)
  have Fw2 : Fld Z h2 a1 "com/example/wellknit/wellknit/Geometry" "srid" "I" (.int p2) := F_1.same W2
  have K2 : Keep h0 h2 [a1] := ((Keep.refl h0 [a1])).wr W2 (Or.inl (List.mem_of_getElem? (i := 0) rfl))
  have N2 := Fr.snoc X2 N0 g_a1
  have f3 := (Exa.wr W2 E_a1)
  obtain ⟨fs, hr, hrun, hended, hW, hsame⟩ := X2.leave (v := none) (fun _ => rfl)
  refine ⟨_, _, pre0 _ ?_, hrun, hended, _, _, rfl, ?_, ⟨_, rfl⟩, hW, hsame.mono (by decide) (by decide)⟩
  · show Steps p.tables e below (s₁.setTop (mkF m 0 #[.val (.ref a1), .val (.int p2)] [])) _
    refine XS.aloadN X0.here hx rfl (hb hby d3_0) rfl rfl ?_
    show Steps p.tables e below (s₁.setTop (mkF m 1 #[.val (.ref a1), .val (.int p2)] [(.ref a1)])) _
    refine st1 _ ?_
    show Steps p.tables e below (T1.setTop (mkF m 4 #[.val (.ref a1), .val (.int p2)] [])) _
    refine XS.aloadN X1.here hx rfl (hb hby d3_4) rfl rfl ?_
    show Steps p.tables e below (T1.setTop (mkF m 5 #[.val (.ref a1), .val (.int p2)] [(.ref a1)])) _
    refine XS.iloadN X1.here hx rfl (hb hby d3_5) rfl ?_
    show Steps p.tables e below (T1.setTop (mkF m 6 #[.val (.ref a1), .val (.int p2)] [(.int p2), (.ref a1)])) _
    refine st2 _ ?_
    show Steps p.tables e below (T2.setTop (mkF m 9 #[.val (.ref a1), .val (.int p2)] [])) _
    exact X2.returnOut hx Bd.returns (hb hby d3_9) hr
  · show Q_rmG Z a1 p2 h0 n0 _ T2.heap _
    rw [e2]
    exact ⟨rfl, N2, K2, f3, fun v q => Fld.other W2 q (Or.inr (slot_ne (Or.inr (hw _ (List.mem_of_getElem? (i := 24) rfl))) (Or.inr (hw _ (List.mem_of_getElem? (i := 22) rfl))) (by decide) (t := (.array .double)) (t' := .int) (by decide) (by decide)))⟩
theorem d2_0 : decode prog_7_method_1_code 0 = .ok (.aload_n 0, 1) := by decide +kernel
theorem d2_1 : decode prog_7_method_1_code 1 = .ok (.iload_n 1, 1) := by decide +kernel
theorem d2_2 : decode prog_7_method_1_code 2 = .ok (.invokespecial 1, 3) := by decide +kernel
theorem d2_5 : decode prog_7_method_1_code 5 = .ok (.aload_n 0, 1) := by decide +kernel
theorem d2_6 : decode prog_7_method_1_code 6 = .ok (.aload_n 2, 1) := by decide +kernel
theorem d2_7 : decode prog_7_method_1_code 7 = .ok (.putfield 7, 3) := by decide +kernel
theorem d2_10 : decode prog_7_method_1_code 10 = .ok (.return_, 1) := by decide +kernel
theorem pn_rmL : plainName "com/example/wellknit/wellknit/LineString" = true := by first | (simp [plainName, overriddenIn]; done) | decide +kernel
theorem pd_rmL_0 : parseMethodDescriptor "(I)V" = some ⟨[.int], none⟩ := by decide +kernel
theorem ef_rmL (m : MethodId) (a1 : Addr) (p2 : Int32) (a3 : Addr) : entryFrame m #[(.ref a1), (.int p2), (.ref a3)] 3 = mkF m 0 #[.val (.ref a1), .val (.int p2), .val (.ref a3)] [] := by first | (simp [entryFrame, mkF, argsToLocals, Value.category]; done) | rfl
def Q_rmL (Z : State) (a1 : Addr) (p2 : Int32) (a3 : Addr) (h0 : Heap) (n0 : Nat) (v : Option Value) (h : Heap) (L : List Loc) : Prop := v = none ∧ Fr n0 L ∧ Keep h0 h [a1] ∧ Exa Z h a1 "com/example/wellknit/wellknit/LineString" ∧ Fld Z h a1 "com/example/wellknit/wellknit/LineString" "coordinates" "[D" (.ref a3)
set_option maxRecDepth 65536 in
set_option maxHeartbeats 40000000 in
theorem rmL (l : Launch) (Z : State) (a0 : Array Value) (hw : ∀ d ∈ tables_1, d.before a0 Z = true) (ws : List Jvm.Cond) (a1 : Addr) (p2 : Int32) (a3 : Addr) (h0 : Heap) (n0 : Nat) (Z0 : n0 ≤ h0.size) (E_a1 : Exa Z h0 a1 "com/example/wellknit/wellknit/LineString") (F_1 : Fld Z h0 a1 "com/example/wellknit/wellknit/Geometry" "srid" "I" (.int (0 : Int32))) (F_2 : Fld Z h0 a1 "com/example/wellknit/wellknit/LineString" "coordinates" "[D" .null) (g_a1 : n0 ≤ a1) :
    MetFree l (⟨"com/example/wellknit/wellknit/LineString", "<init>", "(I[D)V"⟩ : MethodName) (head1 (Jvm.Cond.code (⟨"com/example/wellknit/wellknit/LineString", "<init>", "(I[D)V"⟩ : MethodName) prog_7_method_1_code 3 none :: ws) ({ frames := 2, cells := 0, slots := 0, locals := 25 } : Room)) (fun a U => a = #[(.ref a1), (.int p2), (.ref a3)] ∧ Z.Warmed39 U.vm ∧ U.heap = h0) (fun _ _ _ _ _ => True) (fun _ U o U' => ∃ v L, o = .returned v ∧ Q_rmL Z a1 p2 a3 h0 n0 v U'.heap L ∧ FrameEnd U o U' L ({ frames := 2, cells := 0, slots := 0, locals := 25 } : Room).cells ({ frames := 2, cells := 0, slots := 0, locals := 25 } : Room).slots) := by
  refine MetFree.of_bodySF (plainFor_of_name pn_rmL) hisR ?_
  intro p e s m args below meth c s₁ Bd hml0 hP hK
  obtain ⟨rfl, hZ, hh⟩ := hP
  have hx := Bd.exec
  have hby := Bd.bytes
  have hml : c.maxLocals = 3 := hml0
  have hown : s.vm.findClass "com/example/wellknit/wellknit/LineString" = some m.cls := findClass_of_methodNamed Bd.named
  have hnm := (name_of_methodNamed Bd.named Bd.method).1
  have X0 : Stand p l e ({ frames := 2, cells := 0, slots := 0, locals := 25 } : Room) s m #[(.ref a1), (.int p2), (.ref a3)] below meth c s₁ [] 0 0 := Stand.of_body Bd
  have e0 : s₁.heap = h0 := by rw [← hh, Bd.state]; rfl
  have N0 := Fr.nil n0
  have pre0 : ∀ t, Steps p.tables e below (s₁.setTop (mkF m 0 #[.val (.ref a1), .val (.int p2), .val (.ref a3)] [])) t → Steps p.tables e below (s₁.setTop (entryFrame m #[(.ref a1), (.int p2), (.ref a3)] 3)) t := fun t k => castTop (ef_rmL m a1 p2 a3) k
  obtain ⟨_, _, ⟨T1, L1, k1, n1⟩, -, X1, ⟨Lc1, hQ1, l1, y1, z1⟩, st1⟩ := X0.specialBack hx (y := (⟨"com/example/wellknit/wellknit/Geometry", "<init>", "(I)V"⟩ : MethodName)) rfl hown (mvT hZ (hw _ (List.mem_of_getElem? (i := 13) rfl))) (mvT hZ (hw _ (List.mem_of_getElem? (i := 14) rfl))) (mvT hZ (hw _ (List.mem_of_getElem? (i := 17) rfl))) (by decide) (backOf (W := 0) (rmG l Z a0 hw [] a1 p2 h0 n0 Z0 E_a1 F_1 g_a1) hZ (hw _ (List.mem_of_getElem? (i := 17) rfl)) (hw _ (List.mem_of_getElem? (i := 16) rfl)) (by decide) (by decide)) (g := (mkF m 2 #[.val (.ref a1), .val (.int p2), .val (.ref a3)] [(.int p2), (.ref a1)])) rfl (by rw [hml]; rfl) (Steps.refl _) (a := a1) (argsL := [(.int p2)]) (rest := []) (lenOf pd_rmL_0 rfl) rfl (by show 2 * 0 + _ ≤ _; exact Nat.le_of_eq rfl) (hb hby d2_2) (fun _ _ => ⟨rfl, e0, (by decide : 0 + 0 ≤ _), (by decide : 0 + 0 ≤ _)⟩)
  dsimp only [Pt.U, Pt.locs, Pt.cells, Pt.slots] at X1 l1 y1 z1 st1 hQ1
  subst l1 y1 z1
  obtain ⟨rfl, N1q, K1q, A1q, f1q⟩ := hQ1
  have N1 := Fr.app N0 N1q
  have K1 : Keep h0 T1.heap [a1] := ((Keep.refl h0 [a1])).trans K1q (allS (Or.inl (List.mem_of_getElem? (i := 0) rfl)) all0)
  have G1 := f1q _ F_2
  obtain ⟨T2, h2, X2, e2, W2, st2⟩ := putF X1 hx hZ hown (host := "") (Or.inl (hw _ (List.mem_of_getElem? (i := 23) rfl))) Via.refl rfl G1 A1q (Or.inr ⟨(hw _ (List.mem_of_getElem? (i := 24) rfl)), rfl, hnm⟩) (hw _ (List.mem_of_getElem? (i := 3) rfl)) (ty := (.array .double)) (by decide) rfl rfl (g := (mkF m 7 #[.val (.ref a1), .val (.int p2), .val (.ref a3)] [(.ref a3), (.ref a1)])) rfl rfl (hb hby d2_7)
  have Fw2 : Fld Z h2 a1 "com/example/wellknit/wellknit/LineString" "coordinates" "[D" (.ref a3) := G1.same W2
  have K2 : Keep h0 h2 [a1] := (K1).wr W2 (Or.inl (List.mem_of_getElem? (i := 0) rfl))
  have N2 := Fr.snoc X2 N1 g_a1
  have f3 := (Exa.wr W2 A1q)
  obtain ⟨fs, hr, hrun, hended, hW, hsame⟩ := X2.leave (v := none) (fun _ => rfl)
  refine ⟨_, _, pre0 _ ?_, hrun, hended, _, _, rfl, ?_, ⟨_, rfl⟩, hW, hsame.mono (by decide) (by decide)⟩
  · show Steps p.tables e below (s₁.setTop (mkF m 0 #[.val (.ref a1), .val (.int p2), .val (.ref a3)] [])) _
    refine XS.aloadN X0.here hx rfl (hb hby d2_0) rfl rfl ?_
    show Steps p.tables e below (s₁.setTop (mkF m 1 #[.val (.ref a1), .val (.int p2), .val (.ref a3)] [(.ref a1)])) _
    refine XS.iloadN X0.here hx rfl (hb hby d2_1) rfl ?_
    show Steps p.tables e below (s₁.setTop (mkF m 2 #[.val (.ref a1), .val (.int p2), .val (.ref a3)] [(.int p2), (.ref a1)])) _
    refine st1.trans ?_
    show Steps p.tables e below (T1.setTop (mkF m 5 #[.val (.ref a1), .val (.int p2), .val (.ref a3)] [])) _
    refine XS.aloadN X1.here hx rfl (hb hby d2_5) rfl rfl ?_
    show Steps p.tables e below (T1.setTop (mkF m 6 #[.val (.ref a1), .val (.int p2), .val (.ref a3)] [(.ref a1)])) _
    refine XS.aloadN X1.here hx rfl (hb hby d2_6) rfl rfl ?_
    show Steps p.tables e below (T1.setTop (mkF m 7 #[.val (.ref a1), .val (.int p2), .val (.ref a3)] [(.ref a3), (.ref a1)])) _
    refine st2 _ ?_
    show Steps p.tables e below (T2.setTop (mkF m 10 #[.val (.ref a1), .val (.int p2), .val (.ref a3)] [])) _
    exact X2.returnOut hx Bd.returns (hb hby d2_10) hr
  · show Q_rmL Z a1 p2 a3 h0 n0 _ T2.heap _
    rw [e2]
    exact ⟨rfl, N2, K2, f3, Fw2⟩
theorem d5_0 : decode prog_7_method_5_code 0 = .ok (.aload_n 0, 1) := by decide +kernel
theorem d5_1 : decode prog_7_method_5_code 1 = .ok (.getfield 7, 3) := by decide +kernel
theorem d5_4 : decode prog_7_method_5_code 4 = .ok (.arraylength, 1) := by decide +kernel
theorem d5_5 : decode prog_7_method_5_code 5 = .ok (.ifCond .ne 7, 3) := by decide +kernel
theorem d5_8 : decode prog_7_method_5_code 8 = .ok (.iconst 1, 1) := by decide +kernel
theorem d5_9 : decode prog_7_method_5_code 9 = .ok (.goto 4, 3) := by decide +kernel
theorem d5_12 : decode prog_7_method_5_code 12 = .ok (.iconst 0, 1) := by decide +kernel
theorem d5_13 : decode prog_7_method_5_code 13 = .ok (.ireturn, 1) := by decide +kernel
theorem pn_rmE : plainName "com/example/wellknit/wellknit/LineString" = true := by first | (simp [plainName, overriddenIn]; done) | decide +kernel
theorem ef_rmE (m : MethodId) (a1 : Addr) : entryFrame m #[(.ref a1)] 1 = mkF m 0 #[.val (.ref a1)] [] := by first | (simp [entryFrame, mkF, argsToLocals, Value.category]; done) | rfl
def Q_rmE (Z : State) (a1 : Addr) (wA : Addr) (cl : Cell) (z : Int32) (r : Int32) (h0 : Heap) (n0 : Nat) (v : Option Value) (h : Heap) (L : List Loc) : Prop := v = some (.int r) ∧ Fr n0 L ∧ h = h0
set_option maxRecDepth 65536 in
set_option maxHeartbeats 40000000 in
theorem rmE (l : Launch) (Z : State) (a0 : Array Value) (hw : ∀ d ∈ tables_1, d.before a0 Z = true) (ws : List Jvm.Cond) (a1 : Addr) (wA : Addr) (cl : Cell) (z : Int32) (r : Int32) (h0 : Heap) (n0 : Nat) (Z0 : n0 ≤ h0.size) (F_c : Fld Z h0 a1 "com/example/wellknit/wellknit/LineString" "coordinates" "[D" (.ref wA)) (Ar : Arr Z h0 wA cl .double) (hS : cl.slots.size = z.toNatClampNeg) (hz : ¬ z < 0) (hret : (if z = (0 : Int32) then (1 : Int32) else (0 : Int32)) = r) :
    MetFree l (⟨"com/example/wellknit/wellknit/LineString", "isEmpty", "()Z"⟩ : MethodName) (head1 (Jvm.Cond.code (⟨"com/example/wellknit/wellknit/LineString", "isEmpty", "()Z"⟩ : MethodName) prog_7_method_5_code 1 (some .boolean) :: ws) ({ frames := 0, cells := 0, slots := 0, locals := 0 } : Room)) (fun a U => a = #[(.ref a1)] ∧ Z.Warmed39 U.vm ∧ U.heap = h0) (fun _ _ _ _ _ => True) (fun _ U o U' => ∃ v L, o = .returned v ∧ Q_rmE Z a1 wA cl z r h0 n0 v U'.heap L ∧ FrameEnd U o U' L ({ frames := 0, cells := 0, slots := 0, locals := 0 } : Room).cells ({ frames := 0, cells := 0, slots := 0, locals := 0 } : Room).slots) := by
  refine MetFree.of_bodySF (plainFor_of_name pn_rmE) hisR ?_
  intro p e s m args below meth c s₁ Bd hml0 hP hK
  obtain ⟨rfl, hZ, hh⟩ := hP
  have hx := Bd.exec
  have hby := Bd.bytes
  have hml : c.maxLocals = 1 := hml0
  have hown : s.vm.findClass "com/example/wellknit/wellknit/LineString" = some m.cls := findClass_of_methodNamed Bd.named
  have hnm := (name_of_methodNamed Bd.named Bd.method).1
  have X0 : Stand p l e ({ frames := 0, cells := 0, slots := 0, locals := 0 } : Room) s m #[(.ref a1)] below meth c s₁ [] 0 0 := Stand.of_body Bd
  have e0 : s₁.heap = h0 := by rw [← hh, Bd.state]; rfl
  have N0 := Fr.nil n0
  have pre0 : ∀ t, Steps p.tables e below (s₁.setTop (mkF m 0 #[.val (.ref a1)] [])) t → Steps p.tables e below (s₁.setTop (entryFrame m #[(.ref a1)] 1)) t := fun t k => castTop (ef_rmE m a1) k
  obtain ⟨T1, X1, e1, st1⟩ := getF X0 hx hZ hown (host := "") (Or.inl (hw _ (List.mem_of_getElem? (i := 23) rfl))) Via.refl e0 F_c (g := (mkF m 1 #[.val (.ref a1)] [(.ref a1)])) rfl rfl (hb hby d5_1)
  have pre2 : ∀ t, Steps p.tables e below (T1.setTop (mkF m 5 #[.val (.ref a1)] [(.int z)])) t → Steps p.tables e below (s₁.setTop (entryFrame m #[(.ref a1)] 1)) t := fun t k => pre0 t (by
      show Steps p.tables e below (s₁.setTop (mkF m 0 #[.val (.ref a1)] [])) _
      refine XS.aloadN X0.here hx rfl (hb hby d5_0) rfl rfl ?_
      show Steps p.tables e below (s₁.setTop (mkF m 1 #[.val (.ref a1)] [(.ref a1)])) _
      refine st1 _ ?_
      show Steps p.tables e below (T1.setTop (mkF m 4 #[.val (.ref a1)] [(.ref wA)])) _
      refine X1.arraylength hx (by rw [e1]; exact Ar.1) (State.isArrayOf_alike hZ.alike Ar.2.1) (g := (mkF m 4 #[.val (.ref a1)] [(.ref wA)])) rfl rfl (hb hby d5_4) _ ?_
      rw [len_of hS hz]
      exact k)
  by_cases hc3 : z = (0 : Int32)
  · obtain ⟨fs, hr, hrun, hended, hW, hsame⟩ := X1.leave (v := some (.int (1 : Int32))) (fun h => by rw [Bd.returns] at h; cases h)
    refine ⟨_, _, pre2 _ ?_, hrun, hended, _, _, rfl, ?_, ⟨_, rfl⟩, hW, hsame.mono (by decide) (by decide)⟩
    · show Steps p.tables e below (T1.setTop (mkF m 5 #[.val (.ref a1)] [(.int z)])) _
      refine XS.ifNo X1.here hx rfl (hb hby d5_5) rfl ((if0 _ _).trans (teq hc3).2) ?_
      show Steps p.tables e below (T1.setTop (mkF m 8 #[.val (.ref a1)] [])) _
      refine XS.iconst X1.here hx rfl (hb hby d5_8) ?_
      show Steps p.tables e below (T1.setTop (mkF m 9 #[.val (.ref a1)] [(.int (1 : Int32))])) _
      refine XS.goto X1.here hx rfl (pc0 := 9) (pc' := 13) rfl (hb hby d5_9) (by decide) (by decide) ?_
      show Steps p.tables e below (T1.setTop (mkF m 13 #[.val (.ref a1)] [(.int (1 : Int32))])) _
      exact retN X1 hx (t := .boolean) Bd.returns (by simp) (hb hby d5_13) hr
    · show Q_rmE Z a1 wA cl z r h0 n0 _ T1.heap _
      rw [e1]
      exact ⟨by rw [← hret]; simp only [if_pos hc3], N0, rfl⟩
  · obtain ⟨fs, hr, hrun, hended, hW, hsame⟩ := X1.leave (v := some (.int (0 : Int32))) (fun h => by rw [Bd.returns] at h; cases h)
    refine ⟨_, _, pre2 _ ?_, hrun, hended, _, _, rfl, ?_, ⟨_, rfl⟩, hW, hsame.mono (by decide) (by decide)⟩
    · show Steps p.tables e below (T1.setTop (mkF m 5 #[.val (.ref a1)] [(.int z)])) _
      refine XS.ifYes X1.here hx rfl (pc0 := 5) (pc' := 12) rfl (hb hby d5_5) rfl ((if0 _ _).trans (feq hc3).2) (by decide) (by decide) ?_
      show Steps p.tables e below (T1.setTop (mkF m 12 #[.val (.ref a1)] [])) _
      refine XS.iconst X1.here hx rfl (hb hby d5_12) ?_
      show Steps p.tables e below (T1.setTop (mkF m 13 #[.val (.ref a1)] [(.int (0 : Int32))])) _
      exact retN X1 hx (t := .boolean) Bd.returns (by simp) (hb hby d5_13) hr
    · show Q_rmE Z a1 wA cl z r h0 n0 _ T1.heap _
      rw [e1]
      exact ⟨by rw [← hret]; simp only [if_neg hc3], N0, rfl⟩
theorem d6_0 : decode prog_7_method_2_code 0 = .ok (.aload_n 0, 1) := by decide +kernel
theorem d6_1 : decode prog_7_method_2_code 1 = .ok (.getfield 7, 3) := by decide +kernel
theorem d6_4 : decode prog_7_method_2_code 4 = .ok (.arraylength, 1) := by decide +kernel
theorem d6_5 : decode prog_7_method_2_code 5 = .ok (.iconst 2, 1) := by decide +kernel
theorem d6_6 : decode prog_7_method_2_code 6 = .ok (.idiv, 1) := by decide +kernel
theorem d6_7 : decode prog_7_method_2_code 7 = .ok (.ireturn, 1) := by decide +kernel
theorem pn_rmP : plainName "com/example/wellknit/wellknit/LineString" = true := by first | (simp [plainName, overriddenIn]; done) | decide +kernel
theorem ef_rmP (m : MethodId) (a1 : Addr) : entryFrame m #[(.ref a1)] 1 = mkF m 0 #[.val (.ref a1)] [] := by first | (simp [entryFrame, mkF, argsToLocals, Value.category]; done) | rfl
def Q_rmP (Z : State) (a1 : Addr) (wA : Addr) (cl : Cell) (z : Int32) (r : Int32) (h0 : Heap) (n0 : Nat) (v : Option Value) (h : Heap) (L : List Loc) : Prop := v = some (.int r) ∧ Fr n0 L ∧ h = h0
set_option maxRecDepth 65536 in
set_option maxHeartbeats 40000000 in
theorem rmP (l : Launch) (Z : State) (a0 : Array Value) (hw : ∀ d ∈ tables_1, d.before a0 Z = true) (ws : List Jvm.Cond) (a1 : Addr) (wA : Addr) (cl : Cell) (z : Int32) (r : Int32) (h0 : Heap) (n0 : Nat) (Z0 : n0 ≤ h0.size) (F_c : Fld Z h0 a1 "com/example/wellknit/wellknit/LineString" "coordinates" "[D" (.ref wA)) (Ar : Arr Z h0 wA cl .double) (hS : cl.slots.size = z.toNatClampNeg) (hz : ¬ z < 0) (hret : (z / (2 : Int32)) = r) :
    MetFree l (⟨"com/example/wellknit/wellknit/LineString", "pointCount", "()I"⟩ : MethodName) (head1 (Jvm.Cond.code (⟨"com/example/wellknit/wellknit/LineString", "pointCount", "()I"⟩ : MethodName) prog_7_method_2_code 1 (some .int) :: ws) ({ frames := 0, cells := 0, slots := 0, locals := 0 } : Room)) (fun a U => a = #[(.ref a1)] ∧ Z.Warmed39 U.vm ∧ U.heap = h0) (fun _ _ _ _ _ => True) (fun _ U o U' => ∃ v L, o = .returned v ∧ Q_rmP Z a1 wA cl z r h0 n0 v U'.heap L ∧ FrameEnd U o U' L ({ frames := 0, cells := 0, slots := 0, locals := 0 } : Room).cells ({ frames := 0, cells := 0, slots := 0, locals := 0 } : Room).slots) := by
  refine MetFree.of_bodySF (plainFor_of_name pn_rmP) hisR ?_
  intro p e s m args below meth c s₁ Bd hml0 hP hK
  obtain ⟨rfl, hZ, hh⟩ := hP
  have hx := Bd.exec
  have hby := Bd.bytes
  have hml : c.maxLocals = 1 := hml0
  have hown : s.vm.findClass "com/example/wellknit/wellknit/LineString" = some m.cls := findClass_of_methodNamed Bd.named
  have hnm := (name_of_methodNamed Bd.named Bd.method).1
  have X0 : Stand p l e ({ frames := 0, cells := 0, slots := 0, locals := 0 } : Room) s m #[(.ref a1)] below meth c s₁ [] 0 0 := Stand.of_body Bd
  have e0 : s₁.heap = h0 := by rw [← hh, Bd.state]; rfl
  have N0 := Fr.nil n0
  have pre0 : ∀ t, Steps p.tables e below (s₁.setTop (mkF m 0 #[.val (.ref a1)] [])) t → Steps p.tables e below (s₁.setTop (entryFrame m #[(.ref a1)] 1)) t := fun t k => castTop (ef_rmP m a1) k
  obtain ⟨T1, X1, e1, st1⟩ := getF X0 hx hZ hown (host := "") (Or.inl (hw _ (List.mem_of_getElem? (i := 23) rfl))) Via.refl e0 F_c (g := (mkF m 1 #[.val (.ref a1)] [(.ref a1)])) rfl rfl (hb hby d6_1)
  obtain ⟨fs, hr, hrun, hended, hW, hsame⟩ := X1.leave (v := some (.int (z / (2 : Int32)))) (fun h => by rw [Bd.returns] at h; cases h)
  refine ⟨_, _, pre0 _ ?_, hrun, hended, _, _, rfl, ?_, ⟨_, rfl⟩, hW, hsame.mono (by decide) (by decide)⟩
  · show Steps p.tables e below (s₁.setTop (mkF m 0 #[.val (.ref a1)] [])) _
    refine XS.aloadN X0.here hx rfl (hb hby d6_0) rfl rfl ?_
    show Steps p.tables e below (s₁.setTop (mkF m 1 #[.val (.ref a1)] [(.ref a1)])) _
    refine st1 _ ?_
    show Steps p.tables e below (T1.setTop (mkF m 4 #[.val (.ref a1)] [(.ref wA)])) _
    refine X1.arraylength hx (by rw [e1]; exact Ar.1) (State.isArrayOf_alike hZ.alike Ar.2.1) (g := (mkF m 4 #[.val (.ref a1)] [(.ref wA)])) rfl rfl (hb hby d6_4) _ ?_
    rw [len_of hS hz]
    show Steps p.tables e below (T1.setTop (mkF m 5 #[.val (.ref a1)] [(.int z)])) _
    refine XS.iconst X1.here hx rfl (hb hby d6_5) ?_
    show Steps p.tables e below (T1.setTop (mkF m 6 #[.val (.ref a1)] [(.int (2 : Int32)), (.int z)])) _
    refine XS.idiv X1.here hx rfl (hb hby d6_6) rfl (by decide) ?_
    show Steps p.tables e below (T1.setTop (mkF m 7 #[.val (.ref a1)] [(.int (z / (2 : Int32)))])) _
    exact retI X1 hx Bd.returns (hb hby d6_7) hr
  · show Q_rmP Z a1 wA cl z r h0 n0 _ T1.heap _
    rw [e1]
    exact ⟨by rw [← hret], N0, rfl⟩
theorem pn_rm0 : plainName "com/example/wellknit/wellknit/LineStringIsEmptyPinLaw" = true := by first | (simp [plainName, overriddenIn]; done) | decide +kernel
theorem pd_rm0_0 : parseMethodDescriptor "(IDD)[D" = some ⟨[.int, .double, .double], some (.array .double)⟩ := by decide +kernel
theorem pd_rm0_1 : parseMethodDescriptor "(I[D)V" = some ⟨[.int, (.array .double)], none⟩ := by decide +kernel
theorem pd_rm0_2 : parseMethodDescriptor "()Z" = some ⟨[], some .boolean⟩ := by decide +kernel
theorem pd_rm0_3 : parseMethodDescriptor "()I" = some ⟨[], some .int⟩ := by decide +kernel
theorem ef_rm0 (m : MethodId) (p1 : Int32) (p2 : Int32) (p3 : Int32) (p4 : Int32) : entryFrame m #[(.int p1), (.int p2), (.int p3), (.int p4)] maxLocals = mkF m 0 #[.val (.int p1), .val (.int p2), .val (.int p3), .val (.int p4), .unset, .unset, .unset, .unset, .unset, .unset, .unset] [] := by first | (simp [entryFrame, mkF, argsToLocals, Value.category, maxLocals]; done) | rfl
def Q_rm0 (Z : State) (p1 : Int32) (p2 : Int32) (p3 : Int32) (p4 : Int32) (h0 : Heap) (n0 : Nat) (v : Option Value) (h : Heap) (L : List Loc) : Prop := v = some (.int (1 : Int32)) ∧ Fr n0 L
set_option maxRecDepth 65536 in
set_option maxHeartbeats 40000000 in
theorem rm0 (l : Launch) (Z : State) (a0 : Array Value) (hw : ∀ d ∈ tables_1, d.before a0 Z = true) (ws : List Jvm.Cond) (p1 : Int32) (p2 : Int32) (p3 : Int32) (p4 : Int32) (h0 : Heap) (n0 : Nat) (Z0 : n0 ≤ h0.size) :
    MetFree l x (head1 (Jvm.Cond.code x code maxLocals ret :: ws) room_1) (fun a U => a = #[(.int p1), (.int p2), (.int p3), (.int p4)] ∧ Z.Warmed39 U.vm ∧ U.heap = h0) (fun _ _ _ _ _ => True) (fun _ U o U' => ∃ v L, o = .returned v ∧ Q_rm0 Z p1 p2 p3 p4 h0 n0 v U'.heap L ∧ FrameEnd U o U' L room_1.cells room_1.slots) := by
  refine MetFree.of_bodySF (plainFor_of_name pn_rm0) hisR ?_
  intro p e s m args below meth c s₁ Bd hml0 hP hK
  obtain ⟨rfl, hZ, hh⟩ := hP
  have hx := Bd.exec
  have hby := Bd.bytes
  have hml : c.maxLocals = 11 := hml0
  have hown : s.vm.findClass "com/example/wellknit/wellknit/LineStringIsEmptyPinLaw" = some m.cls := findClass_of_methodNamed Bd.named
  have hnm := (name_of_methodNamed Bd.named Bd.method).1
  have X0 : Stand p l e room_1 s m #[(.int p1), (.int p2), (.int p3), (.int p4)] below meth c s₁ [] 0 0 := Stand.of_body Bd
  have e0 : s₁.heap = h0 := by rw [← hh, Bd.state]; rfl
  have N0 := Fr.nil n0
  have pre0 : ∀ t, Steps p.tables e below (s₁.setTop (mkF m 0 #[.val (.int p1), .val (.int p2), .val (.int p3), .val (.int p4), .unset, .unset, .unset, .unset, .unset, .unset, .unset] [])) t → Steps p.tables e below (s₁.setTop (entryFrame m #[(.int p1), (.int p2), (.int p3), (.int p4)] maxLocals)) t := fun t k => castTop (ef_rm0 m p1 p2 p3 p4) k
  have pre1 : ∀ t, Steps p.tables e below (s₁.setTop (mkF m 3 #[.val (.int p1), .val (.int p2), .val (.int p3), .val (.int p4), .unset, .unset, .unset, .unset, .unset, .unset, .unset] [(.int (p2 &&& (3 : Int32)))])) t → Steps p.tables e below (s₁.setTop (entryFrame m #[(.int p1), (.int p2), (.int p3), (.int p4)] maxLocals)) t := fun t k => pre0 t (by
      show Steps p.tables e below (s₁.setTop (mkF m 0 #[.val (.int p1), .val (.int p2), .val (.int p3), .val (.int p4), .unset, .unset, .unset, .unset, .unset, .unset, .unset] [])) _
      refine XS.iloadN X0.here hx rfl (hb hby at_0) rfl ?_
      show Steps p.tables e below (s₁.setTop (mkF m 1 #[.val (.int p1), .val (.int p2), .val (.int p3), .val (.int p4), .unset, .unset, .unset, .unset, .unset, .unset, .unset] [(.int p2)])) _
      refine XS.iconst X0.here hx rfl (hb hby at_1) ?_
      show Steps p.tables e below (s₁.setTop (mkF m 2 #[.val (.int p1), .val (.int p2), .val (.int p3), .val (.int p4), .unset, .unset, .unset, .unset, .unset, .unset, .unset] [(.int (3 : Int32)), (.int p2)])) _
      refine XS.iand X0.here hx rfl (hb hby at_2) rfl ?_
      exact k)
  have hbnd := own_and3 p2
  rcases own_cases4 hbnd.1 hbnd.2 with hk | hk | hk | hk
  · have pre2 : ∀ t, Steps p.tables e below (s₁.setTop (mkF m 3 #[.val (.int p1), .val (.int p2), .val (.int p3), .val (.int p4), .unset, .unset, .unset, .unset, .unset, .unset, .unset] [(.int (0 : Int32))])) t → Steps p.tables e below (s₁.setTop (entryFrame m #[(.int p1), (.int p2), (.int p3), (.int p4)] maxLocals)) t := fun t k => pre1 t (by rw [hk]; exact k)
    obtain ⟨T3, h3, X3, e3, E3, A3, D3, -, st3⟩ := newO X0 hx hZ hown (hw _ (List.mem_of_getElem? (i := 2) rfl)) (hw _ (List.mem_of_getElem? (i := 3) rfl)) (hw _ (List.mem_of_getElem? (i := 4) rfl)) e0 (g := (mkF m 25 #[.val (.int p1), .val (.int p2), .val (.int p3), .val (.int p4), .val (.int (0 : Int32)), .val (.double (FP.i2d ((p3 &&& (65535 : Int32)) - (32768 : Int32)))), .second, .val (.double (FP.i2d ((p4 &&& (65535 : Int32)) - (32768 : Int32)))), .second, .unset, .unset] [])) rfl (hb hby at_25) (by decide) (by decide)
    obtain ⟨b3, g3⟩ : ∃ z, z = h0.size := ⟨_, rfl⟩
    rw [← g3] at A3 D3 st3
    have g_b3 : n0 ≤ b3 := Nat.le_trans Z0 (Nat.le_of_eq g3.symm)
    have sz_b3 : h0.size ≤ b3 := Nat.le_trans ((Keep.refl h0 [])).1 (Nat.le_of_eq g3.symm)
    have K3 : Keep h0 h3 [] := ((Keep.refl h0 [])).ext E3
    have F3_srid : Fld Z h3 b3 "com/example/wellknit/wellknit/Geometry" "srid" "I" (.int (0 : Int32)) := D3 (Or.inr (hw _ (List.mem_of_getElem? (i := 22) rfl))) (ty := .int) (by decide)
    have F3_coordinates : Fld Z h3 b3 "com/example/wellknit/wellknit/LineString" "coordinates" "[D" .null := D3 (Or.inr (hw _ (List.mem_of_getElem? (i := 24) rfl))) (ty := (.array .double)) (by decide)
    obtain ⟨_, _, ⟨T4, L4, k4, n4⟩, -, X4, ⟨Lc4, hQ4, l4, y4, z4⟩, st4⟩ := Jvm.LawKit.callS X3 hx (y := (⟨"com/example/wellknit/wellknit/LineStringIsEmptyPinLaw", "coords", "(IDD)[D"⟩ : MethodName)) hown (mvT hZ (hw _ (List.mem_of_getElem? (i := 5) rfl))) (mvT hZ (hw _ (List.mem_of_getElem? (i := 6) rfl))) (mvT hZ (hw _ (List.mem_of_getElem? (i := 7) rfl))) (mvT hZ (hw _ (List.mem_of_getElem? (i := 8) rfl))) (by decide) (backOf (W := 3) (rmC0 l Z a0 hw [] (FP.i2d ((p3 &&& (65535 : Int32)) - (32768 : Int32))) (FP.i2d ((p4 &&& (65535 : Int32)) - (32768 : Int32))) h3 n0 (Nat.le_trans Z0 K3.1)) hZ (hw _ (List.mem_of_getElem? (i := 8) rfl)) (hw _ (List.mem_of_getElem? (i := 7) rfl)) (by decide) (by decide)) (g := (mkF m 36 #[.val (.int p1), .val (.int p2), .val (.int p3), .val (.int p4), .val (.int (0 : Int32)), .val (.double (FP.i2d ((p3 &&& (65535 : Int32)) - (32768 : Int32)))), .second, .val (.double (FP.i2d ((p4 &&& (65535 : Int32)) - (32768 : Int32)))), .second, .unset, .unset] [(.double (FP.i2d ((p4 &&& (65535 : Int32)) - (32768 : Int32)))), (.double (FP.i2d ((p3 &&& (65535 : Int32)) - (32768 : Int32)))), (.int (0 : Int32)), (.int p1), (.ref b3), (.ref b3)])) rfl (by rw [hml]; rfl) (argsL := [(.int (0 : Int32)), (.double (FP.i2d ((p3 &&& (65535 : Int32)) - (32768 : Int32)))), (.double (FP.i2d ((p4 &&& (65535 : Int32)) - (32768 : Int32))))]) (rest := [(.int p1), (.ref b3), (.ref b3)]) (lenOf pd_rm0_0 rfl) rfl (by show 2 * 0 + _ ≤ _; exact Nat.le_of_eq rfl) (hb hby at_36) (fun _ _ => ⟨rfl, e3, (by decide : 1 + 1 ≤ _), (by decide : 2 + 0 ≤ _)⟩)
    dsimp only [Pt.U, Pt.locs, Pt.cells, Pt.slots] at X4 l4 y4 z4 st4 hQ4
    subst l4 y4 z4
    obtain ⟨r4, rfl, N4q, E4q, s4q, cl4, Ar4, S4⟩ := hQ4
    have N4 := Fr.app N0 N4q
    have ne_b3_r4 : b3 ≠ r4 := Nat.ne_of_lt (Nat.lt_of_lt_of_le A3.lt s4q)
    have K4 : Keep h0 T4.heap [] := (K3).ext E4q
    have f5 := (Exa.ext E4q A3)
    have f6 := (Fld.ext E4q F3_srid)
    have f7 := (Fld.ext E4q F3_coordinates)
    obtain ⟨_, _, ⟨T8, L8, k8, n8⟩, -, X8, ⟨Lc8, hQ8, l8, y8, z8⟩, st8⟩ := X4.specialBack hx (y := (⟨"com/example/wellknit/wellknit/LineString", "<init>", "(I[D)V"⟩ : MethodName)) rfl hown (mvT hZ (hw _ (List.mem_of_getElem? (i := 10) rfl))) (mvT hZ (hw _ (List.mem_of_getElem? (i := 11) rfl))) (mvT hZ (hw _ (List.mem_of_getElem? (i := 12) rfl))) (by decide) (backOf (W := 1) (rmL l Z a0 hw [] b3 p1 r4 T4.heap n0 (Nat.le_trans Z0 K4.1) f5 f6 f7 g_b3) hZ (hw _ (List.mem_of_getElem? (i := 12) rfl)) (hw _ (List.mem_of_getElem? (i := 4) rfl)) (by decide) (by decide)) (g := (mkF m 39 #[.val (.int p1), .val (.int p2), .val (.int p3), .val (.int p4), .val (.int (0 : Int32)), .val (.double (FP.i2d ((p3 &&& (65535 : Int32)) - (32768 : Int32)))), .second, .val (.double (FP.i2d ((p4 &&& (65535 : Int32)) - (32768 : Int32)))), .second, .unset, .unset] [(.ref r4), (.int p1), (.ref b3), (.ref b3)])) rfl (by rw [hml]; rfl) (Steps.refl _) (a := b3) (argsL := [(.int p1), (.ref r4)]) (rest := [(.ref b3)]) (lenOf pd_rm0_1 rfl) rfl (by show 2 * 0 + _ ≤ _; exact Nat.le_of_eq rfl) (hb hby at_39) (fun _ _ => ⟨rfl, rfl, (by decide : 2 + 0 ≤ _), (by decide : 2 + 0 ≤ _)⟩)
    dsimp only [Pt.U, Pt.locs, Pt.cells, Pt.slots] at X8 l8 y8 z8 st8 hQ8
    subst l8 y8 z8
    obtain ⟨rfl, N8q, K8q, A8q, G8q⟩ := hQ8
    have N8 := Fr.app N4 N8q
    have K8 : Keep h0 T8.heap [] := (K4).trans K8q (allS (Or.inr sz_b3) all0)
    have Ar8' : Arr Z T8.heap r4 cl4 .double := ⟨K8q.2.1 _ _ Ar4.1 (ninS (Ne.symm ne_b3_r4) nin0), Ar4.2⟩
    obtain ⟨cq9, kq9, q9a, q9b, q9c⟩ := isOf hZ rfl A8q
    obtain ⟨_, _, ⟨T9, L9, k9, n9⟩, -, X9, ⟨Lc9, hQ9, l9, y9, z9⟩, st9⟩ := X8.virtualBack hx (y := (⟨"com/example/wellknit/wellknit/LineString", "isEmpty", "()Z"⟩ : MethodName)) (z := (⟨"com/example/wellknit/wellknit/LineString", "isEmpty", "()Z"⟩ : MethodName)) hown (mvT hZ (hw _ (List.mem_of_getElem? (i := 25) rfl))) (mvT hZ (hw _ (List.mem_of_getElem? (i := 26) rfl))) (notFace_of_selects (args := #[]) (mvT hZ (hw _ (List.mem_of_getElem? (i := 28) rfl)))) (mvT hZ (hw _ (List.mem_of_getElem? (i := 28) rfl))) (mvT hZ (hw _ (List.mem_of_getElem? (i := 27) rfl))) (by decide) (backOf (W := 0) (rmE l Z a0 hw [] b3 r4 cl4 (0 : Int32) (1 : Int32) T8.heap n0 (Nat.le_trans Z0 K8.1) G8q Ar8' S4 (by decide) (by decide)) hZ (hw _ (List.mem_of_getElem? (i := 29) rfl)) (hw _ (List.mem_of_getElem? (i := 4) rfl)) (by decide) (by decide)) q9a q9c (g := (mkF m 46 #[.val (.int p1), .val (.int p2), .val (.int p3), .val (.int p4), .val (.int (0 : Int32)), .val (.double (FP.i2d ((p3 &&& (65535 : Int32)) - (32768 : Int32)))), .second, .val (.double (FP.i2d ((p4 &&& (65535 : Int32)) - (32768 : Int32)))), .second, .val (.ref b3), .unset] [(.ref b3)])) rfl (by rw [hml]; rfl) (Steps.refl _) (argsL := []) (rest := []) (lenOf pd_rm0_2 rfl) rfl (by show 2 * 0 + _ ≤ _; exact Nat.le_of_eq rfl) (hb hby at_46) (fun _ _ => ⟨rfl, rfl, (by decide : 2 + 0 ≤ _), (by decide : 2 + 0 ≤ _)⟩)
    dsimp only [Pt.U, Pt.locs, Pt.cells, Pt.slots] at X9 l9 y9 z9 st9 hQ9
    subst l9 y9 z9
    obtain ⟨rfl, N9q, e9⟩ := hQ9
    have N9 := Fr.app N8 N9q
    obtain ⟨cq10, kq10, q10a, q10b, q10c⟩ := isOf hZ e9 A8q
    obtain ⟨_, _, ⟨T10, L10, k10, n10⟩, -, X10, ⟨Lc10, hQ10, l10, y10, z10⟩, st10⟩ := X9.virtualBack hx (y := (⟨"com/example/wellknit/wellknit/LineString", "pointCount", "()I"⟩ : MethodName)) (z := (⟨"com/example/wellknit/wellknit/LineString", "pointCount", "()I"⟩ : MethodName)) hown (mvT hZ (hw _ (List.mem_of_getElem? (i := 30) rfl))) (mvT hZ (hw _ (List.mem_of_getElem? (i := 31) rfl))) (notFace_of_selects (args := #[]) (mvT hZ (hw _ (List.mem_of_getElem? (i := 33) rfl)))) (mvT hZ (hw _ (List.mem_of_getElem? (i := 33) rfl))) (mvT hZ (hw _ (List.mem_of_getElem? (i := 32) rfl))) (by decide) (backOf (W := 0) (rmP l Z a0 hw [] b3 r4 cl4 (0 : Int32) (0 : Int32) T8.heap n0 (Nat.le_trans Z0 K8.1) G8q Ar8' S4 (by decide) (by decide)) hZ (hw _ (List.mem_of_getElem? (i := 34) rfl)) (hw _ (List.mem_of_getElem? (i := 4) rfl)) (by decide) (by decide)) q10a q10c (g := (mkF m 68 #[.val (.int p1), .val (.int p2), .val (.int p3), .val (.int p4), .val (.int (0 : Int32)), .val (.double (FP.i2d ((p3 &&& (65535 : Int32)) - (32768 : Int32)))), .second, .val (.double (FP.i2d ((p4 &&& (65535 : Int32)) - (32768 : Int32)))), .second, .val (.ref b3), .val (.int (1 : Int32))] [(.ref b3)])) rfl (by rw [hml]; rfl) (Steps.refl _) (argsL := []) (rest := []) (lenOf pd_rm0_3 rfl) rfl (by show 2 * 0 + _ ≤ _; exact Nat.le_of_eq rfl) (hb hby at_68) (fun _ _ => ⟨rfl, e9, (by decide : 2 + 0 ≤ _), (by decide : 2 + 0 ≤ _)⟩)
    dsimp only [Pt.U, Pt.locs, Pt.cells, Pt.slots] at X10 l10 y10 z10 st10 hQ10
    subst l10 y10 z10
    obtain ⟨rfl, N10q, e10⟩ := hQ10
    have N10 := Fr.app N9 N10q
    obtain ⟨fs, hr, hrun, hended, hW, hsame⟩ := X10.leave (v := some (.int (1 : Int32))) (fun h => by rw [Bd.returns] at h; cases h)
    refine ⟨_, _, pre2 _ ?_, hrun, hended, _, _, rfl, ?_, ⟨_, rfl⟩, hW, hsame.mono (by decide) (by decide)⟩
    · show Steps p.tables e below (s₁.setTop (mkF m 3 #[.val (.int p1), .val (.int p2), .val (.int p3), .val (.int p4), .unset, .unset, .unset, .unset, .unset, .unset, .unset] [(.int (0 : Int32))])) _
      refine XS.istore X0.here hx rfl (hb hby at_3) rfl (l' := #[.val (.int p1), .val (.int p2), .val (.int p3), .val (.int p4), .val (.int (0 : Int32)), .unset, .unset, .unset, .unset, .unset, .unset]) rfl ?_
      show Steps p.tables e below (s₁.setTop (mkF m 5 #[.val (.int p1), .val (.int p2), .val (.int p3), .val (.int p4), .val (.int (0 : Int32)), .unset, .unset, .unset, .unset, .unset, .unset] [])) _
      refine XS.iloadN X0.here hx rfl (hb hby at_5) rfl ?_
      show Steps p.tables e below (s₁.setTop (mkF m 6 #[.val (.int p1), .val (.int p2), .val (.int p3), .val (.int p4), .val (.int (0 : Int32)), .unset, .unset, .unset, .unset, .unset, .unset] [(.int p3)])) _
      refine X0.ldcInt hx hown (mvT hZ (hw _ (List.mem_of_getElem? (i := 0) rfl))) (g := (mkF m 6 #[.val (.int p1), .val (.int p2), .val (.int p3), .val (.int p4), .val (.int (0 : Int32)), .unset, .unset, .unset, .unset, .unset, .unset] [(.int p3)])) rfl (hb hby at_6) _ ?_
      show Steps p.tables e below (s₁.setTop (mkF m 8 #[.val (.int p1), .val (.int p2), .val (.int p3), .val (.int p4), .val (.int (0 : Int32)), .unset, .unset, .unset, .unset, .unset, .unset] [(.int (65535 : Int32)), (.int p3)])) _
      refine XS.iand X0.here hx rfl (hb hby at_8) rfl ?_
      show Steps p.tables e below (s₁.setTop (mkF m 9 #[.val (.int p1), .val (.int p2), .val (.int p3), .val (.int p4), .val (.int (0 : Int32)), .unset, .unset, .unset, .unset, .unset, .unset] [(.int (p3 &&& (65535 : Int32)))])) _
      refine X0.ldcInt hx hown (mvT hZ (hw _ (List.mem_of_getElem? (i := 1) rfl))) (g := (mkF m 9 #[.val (.int p1), .val (.int p2), .val (.int p3), .val (.int p4), .val (.int (0 : Int32)), .unset, .unset, .unset, .unset, .unset, .unset] [(.int (p3 &&& (65535 : Int32)))])) rfl (hb hby at_9) _ ?_
      show Steps p.tables e below (s₁.setTop (mkF m 11 #[.val (.int p1), .val (.int p2), .val (.int p3), .val (.int p4), .val (.int (0 : Int32)), .unset, .unset, .unset, .unset, .unset, .unset] [(.int (32768 : Int32)), (.int (p3 &&& (65535 : Int32)))])) _
      refine XS.isub X0.here hx rfl (hb hby at_11) rfl ?_
      show Steps p.tables e below (s₁.setTop (mkF m 12 #[.val (.int p1), .val (.int p2), .val (.int p3), .val (.int p4), .val (.int (0 : Int32)), .unset, .unset, .unset, .unset, .unset, .unset] [(.int ((p3 &&& (65535 : Int32)) - (32768 : Int32)))])) _
      refine XS.i2dS X0.here hx rfl (hb hby at_12) rfl (v := (FP.i2d ((p3 &&& (65535 : Int32)) - (32768 : Int32)))) rfl ?_
      show Steps p.tables e below (s₁.setTop (mkF m 13 #[.val (.int p1), .val (.int p2), .val (.int p3), .val (.int p4), .val (.int (0 : Int32)), .unset, .unset, .unset, .unset, .unset, .unset] [(.double (FP.i2d ((p3 &&& (65535 : Int32)) - (32768 : Int32))))])) _
      refine XS.dstore X0.here hx rfl (hb hby at_13) rfl (l' := #[.val (.int p1), .val (.int p2), .val (.int p3), .val (.int p4), .val (.int (0 : Int32)), .val (.double (FP.i2d ((p3 &&& (65535 : Int32)) - (32768 : Int32)))), .second, .unset, .unset, .unset, .unset]) rfl ?_
      show Steps p.tables e below (s₁.setTop (mkF m 15 #[.val (.int p1), .val (.int p2), .val (.int p3), .val (.int p4), .val (.int (0 : Int32)), .val (.double (FP.i2d ((p3 &&& (65535 : Int32)) - (32768 : Int32)))), .second, .unset, .unset, .unset, .unset] [])) _
      refine XS.iloadN X0.here hx rfl (hb hby at_15) rfl ?_
      show Steps p.tables e below (s₁.setTop (mkF m 16 #[.val (.int p1), .val (.int p2), .val (.int p3), .val (.int p4), .val (.int (0 : Int32)), .val (.double (FP.i2d ((p3 &&& (65535 : Int32)) - (32768 : Int32)))), .second, .unset, .unset, .unset, .unset] [(.int p4)])) _
      refine X0.ldcInt hx hown (mvT hZ (hw _ (List.mem_of_getElem? (i := 0) rfl))) (g := (mkF m 16 #[.val (.int p1), .val (.int p2), .val (.int p3), .val (.int p4), .val (.int (0 : Int32)), .val (.double (FP.i2d ((p3 &&& (65535 : Int32)) - (32768 : Int32)))), .second, .unset, .unset, .unset, .unset] [(.int p4)])) rfl (hb hby at_16) _ ?_
      show Steps p.tables e below (s₁.setTop (mkF m 18 #[.val (.int p1), .val (.int p2), .val (.int p3), .val (.int p4), .val (.int (0 : Int32)), .val (.double (FP.i2d ((p3 &&& (65535 : Int32)) - (32768 : Int32)))), .second, .unset, .unset, .unset, .unset] [(.int (65535 : Int32)), (.int p4)])) _
      refine XS.iand X0.here hx rfl (hb hby at_18) rfl ?_
      show Steps p.tables e below (s₁.setTop (mkF m 19 #[.val (.int p1), .val (.int p2), .val (.int p3), .val (.int p4), .val (.int (0 : Int32)), .val (.double (FP.i2d ((p3 &&& (65535 : Int32)) - (32768 : Int32)))), .second, .unset, .unset, .unset, .unset] [(.int (p4 &&& (65535 : Int32)))])) _
      refine X0.ldcInt hx hown (mvT hZ (hw _ (List.mem_of_getElem? (i := 1) rfl))) (g := (mkF m 19 #[.val (.int p1), .val (.int p2), .val (.int p3), .val (.int p4), .val (.int (0 : Int32)), .val (.double (FP.i2d ((p3 &&& (65535 : Int32)) - (32768 : Int32)))), .second, .unset, .unset, .unset, .unset] [(.int (p4 &&& (65535 : Int32)))])) rfl (hb hby at_19) _ ?_
      show Steps p.tables e below (s₁.setTop (mkF m 21 #[.val (.int p1), .val (.int p2), .val (.int p3), .val (.int p4), .val (.int (0 : Int32)), .val (.double (FP.i2d ((p3 &&& (65535 : Int32)) - (32768 : Int32)))), .second, .unset, .unset, .unset, .unset] [(.int (32768 : Int32)), (.int (p4 &&& (65535 : Int32)))])) _
      refine XS.isub X0.here hx rfl (hb hby at_21) rfl ?_
      show Steps p.tables e below (s₁.setTop (mkF m 22 #[.val (.int p1), .val (.int p2), .val (.int p3), .val (.int p4), .val (.int (0 : Int32)), .val (.double (FP.i2d ((p3 &&& (65535 : Int32)) - (32768 : Int32)))), .second, .unset, .unset, .unset, .unset] [(.int ((p4 &&& (65535 : Int32)) - (32768 : Int32)))])) _
      refine XS.i2dS X0.here hx rfl (hb hby at_22) rfl (v := (FP.i2d ((p4 &&& (65535 : Int32)) - (32768 : Int32)))) rfl ?_
      show Steps p.tables e below (s₁.setTop (mkF m 23 #[.val (.int p1), .val (.int p2), .val (.int p3), .val (.int p4), .val (.int (0 : Int32)), .val (.double (FP.i2d ((p3 &&& (65535 : Int32)) - (32768 : Int32)))), .second, .unset, .unset, .unset, .unset] [(.double (FP.i2d ((p4 &&& (65535 : Int32)) - (32768 : Int32))))])) _
      refine XS.dstore X0.here hx rfl (hb hby at_23) rfl (l' := #[.val (.int p1), .val (.int p2), .val (.int p3), .val (.int p4), .val (.int (0 : Int32)), .val (.double (FP.i2d ((p3 &&& (65535 : Int32)) - (32768 : Int32)))), .second, .val (.double (FP.i2d ((p4 &&& (65535 : Int32)) - (32768 : Int32)))), .second, .unset, .unset]) rfl ?_
      show Steps p.tables e below (s₁.setTop (mkF m 25 #[.val (.int p1), .val (.int p2), .val (.int p3), .val (.int p4), .val (.int (0 : Int32)), .val (.double (FP.i2d ((p3 &&& (65535 : Int32)) - (32768 : Int32)))), .second, .val (.double (FP.i2d ((p4 &&& (65535 : Int32)) - (32768 : Int32)))), .second, .unset, .unset] [])) _
      refine st3 _ ?_
      show Steps p.tables e below (T3.setTop (mkF m 28 #[.val (.int p1), .val (.int p2), .val (.int p3), .val (.int p4), .val (.int (0 : Int32)), .val (.double (FP.i2d ((p3 &&& (65535 : Int32)) - (32768 : Int32)))), .second, .val (.double (FP.i2d ((p4 &&& (65535 : Int32)) - (32768 : Int32)))), .second, .unset, .unset] [(.ref b3)])) _
      refine XS.dup X3.here hx rfl (hb hby at_28) rfl rfl ?_
      show Steps p.tables e below (T3.setTop (mkF m 29 #[.val (.int p1), .val (.int p2), .val (.int p3), .val (.int p4), .val (.int (0 : Int32)), .val (.double (FP.i2d ((p3 &&& (65535 : Int32)) - (32768 : Int32)))), .second, .val (.double (FP.i2d ((p4 &&& (65535 : Int32)) - (32768 : Int32)))), .second, .unset, .unset] [(.ref b3), (.ref b3)])) _
      refine XS.iloadN X3.here hx rfl (hb hby at_29) rfl ?_
      show Steps p.tables e below (T3.setTop (mkF m 30 #[.val (.int p1), .val (.int p2), .val (.int p3), .val (.int p4), .val (.int (0 : Int32)), .val (.double (FP.i2d ((p3 &&& (65535 : Int32)) - (32768 : Int32)))), .second, .val (.double (FP.i2d ((p4 &&& (65535 : Int32)) - (32768 : Int32)))), .second, .unset, .unset] [(.int p1), (.ref b3), (.ref b3)])) _
      refine XS.iload X3.here hx rfl (hb hby at_30) rfl ?_
      show Steps p.tables e below (T3.setTop (mkF m 32 #[.val (.int p1), .val (.int p2), .val (.int p3), .val (.int p4), .val (.int (0 : Int32)), .val (.double (FP.i2d ((p3 &&& (65535 : Int32)) - (32768 : Int32)))), .second, .val (.double (FP.i2d ((p4 &&& (65535 : Int32)) - (32768 : Int32)))), .second, .unset, .unset] [(.int (0 : Int32)), (.int p1), (.ref b3), (.ref b3)])) _
      refine XS.dload X3.here hx rfl (hb hby at_32) rfl ?_
      show Steps p.tables e below (T3.setTop (mkF m 34 #[.val (.int p1), .val (.int p2), .val (.int p3), .val (.int p4), .val (.int (0 : Int32)), .val (.double (FP.i2d ((p3 &&& (65535 : Int32)) - (32768 : Int32)))), .second, .val (.double (FP.i2d ((p4 &&& (65535 : Int32)) - (32768 : Int32)))), .second, .unset, .unset] [(.double (FP.i2d ((p3 &&& (65535 : Int32)) - (32768 : Int32)))), (.int (0 : Int32)), (.int p1), (.ref b3), (.ref b3)])) _
      refine XS.dload X3.here hx rfl (hb hby at_34) rfl ?_
      show Steps p.tables e below (T3.setTop (mkF m 36 #[.val (.int p1), .val (.int p2), .val (.int p3), .val (.int p4), .val (.int (0 : Int32)), .val (.double (FP.i2d ((p3 &&& (65535 : Int32)) - (32768 : Int32)))), .second, .val (.double (FP.i2d ((p4 &&& (65535 : Int32)) - (32768 : Int32)))), .second, .unset, .unset] [(.double (FP.i2d ((p4 &&& (65535 : Int32)) - (32768 : Int32)))), (.double (FP.i2d ((p3 &&& (65535 : Int32)) - (32768 : Int32)))), (.int (0 : Int32)), (.int p1), (.ref b3), (.ref b3)])) _
      refine st4 _ ?_
      show Steps p.tables e below (T4.setTop (mkF m 39 #[.val (.int p1), .val (.int p2), .val (.int p3), .val (.int p4), .val (.int (0 : Int32)), .val (.double (FP.i2d ((p3 &&& (65535 : Int32)) - (32768 : Int32)))), .second, .val (.double (FP.i2d ((p4 &&& (65535 : Int32)) - (32768 : Int32)))), .second, .unset, .unset] [(.ref r4), (.int p1), (.ref b3), (.ref b3)])) _
      refine st8.trans ?_
      show Steps p.tables e below (T8.setTop (mkF m 42 #[.val (.int p1), .val (.int p2), .val (.int p3), .val (.int p4), .val (.int (0 : Int32)), .val (.double (FP.i2d ((p3 &&& (65535 : Int32)) - (32768 : Int32)))), .second, .val (.double (FP.i2d ((p4 &&& (65535 : Int32)) - (32768 : Int32)))), .second, .unset, .unset] [(.ref b3)])) _
      refine XS.astore X8.here hx rfl (hb hby at_42) rfl rfl (l' := #[.val (.int p1), .val (.int p2), .val (.int p3), .val (.int p4), .val (.int (0 : Int32)), .val (.double (FP.i2d ((p3 &&& (65535 : Int32)) - (32768 : Int32)))), .second, .val (.double (FP.i2d ((p4 &&& (65535 : Int32)) - (32768 : Int32)))), .second, .val (.ref b3), .unset]) rfl ?_
      show Steps p.tables e below (T8.setTop (mkF m 44 #[.val (.int p1), .val (.int p2), .val (.int p3), .val (.int p4), .val (.int (0 : Int32)), .val (.double (FP.i2d ((p3 &&& (65535 : Int32)) - (32768 : Int32)))), .second, .val (.double (FP.i2d ((p4 &&& (65535 : Int32)) - (32768 : Int32)))), .second, .val (.ref b3), .unset] [])) _
      refine XS.aload X8.here hx rfl (hb hby at_44) rfl rfl ?_
      show Steps p.tables e below (T8.setTop (mkF m 46 #[.val (.int p1), .val (.int p2), .val (.int p3), .val (.int p4), .val (.int (0 : Int32)), .val (.double (FP.i2d ((p3 &&& (65535 : Int32)) - (32768 : Int32)))), .second, .val (.double (FP.i2d ((p4 &&& (65535 : Int32)) - (32768 : Int32)))), .second, .val (.ref b3), .unset] [(.ref b3)])) _
      refine st9.trans ?_
      show Steps p.tables e below (T9.setTop (mkF m 49 #[.val (.int p1), .val (.int p2), .val (.int p3), .val (.int p4), .val (.int (0 : Int32)), .val (.double (FP.i2d ((p3 &&& (65535 : Int32)) - (32768 : Int32)))), .second, .val (.double (FP.i2d ((p4 &&& (65535 : Int32)) - (32768 : Int32)))), .second, .val (.ref b3), .unset] [(.int (1 : Int32))])) _
      refine XS.istore X9.here hx rfl (hb hby at_49) rfl (l' := #[.val (.int p1), .val (.int p2), .val (.int p3), .val (.int p4), .val (.int (0 : Int32)), .val (.double (FP.i2d ((p3 &&& (65535 : Int32)) - (32768 : Int32)))), .second, .val (.double (FP.i2d ((p4 &&& (65535 : Int32)) - (32768 : Int32)))), .second, .val (.ref b3), .val (.int (1 : Int32))]) rfl ?_
      show Steps p.tables e below (T9.setTop (mkF m 51 #[.val (.int p1), .val (.int p2), .val (.int p3), .val (.int p4), .val (.int (0 : Int32)), .val (.double (FP.i2d ((p3 &&& (65535 : Int32)) - (32768 : Int32)))), .second, .val (.double (FP.i2d ((p4 &&& (65535 : Int32)) - (32768 : Int32)))), .second, .val (.ref b3), .val (.int (1 : Int32))] [])) _
      refine XS.iload X9.here hx rfl (hb hby at_51) rfl ?_
      show Steps p.tables e below (T9.setTop (mkF m 53 #[.val (.int p1), .val (.int p2), .val (.int p3), .val (.int p4), .val (.int (0 : Int32)), .val (.double (FP.i2d ((p3 &&& (65535 : Int32)) - (32768 : Int32)))), .second, .val (.double (FP.i2d ((p4 &&& (65535 : Int32)) - (32768 : Int32)))), .second, .val (.ref b3), .val (.int (1 : Int32))] [(.int (1 : Int32))])) _
      refine XS.iload X9.here hx rfl (hb hby at_53) rfl ?_
      show Steps p.tables e below (T9.setTop (mkF m 55 #[.val (.int p1), .val (.int p2), .val (.int p3), .val (.int p4), .val (.int (0 : Int32)), .val (.double (FP.i2d ((p3 &&& (65535 : Int32)) - (32768 : Int32)))), .second, .val (.double (FP.i2d ((p4 &&& (65535 : Int32)) - (32768 : Int32)))), .second, .val (.ref b3), .val (.int (1 : Int32))] [(.int (0 : Int32)), (.int (1 : Int32))])) _
      refine XS.ifNo X9.here hx rfl (hb hby at_55) rfl ((if0 _ _).trans (teq (rfl : (0 : Int32) = (0 : Int32))).2) ?_
      show Steps p.tables e below (T9.setTop (mkF m 58 #[.val (.int p1), .val (.int p2), .val (.int p3), .val (.int p4), .val (.int (0 : Int32)), .val (.double (FP.i2d ((p3 &&& (65535 : Int32)) - (32768 : Int32)))), .second, .val (.double (FP.i2d ((p4 &&& (65535 : Int32)) - (32768 : Int32)))), .second, .val (.ref b3), .val (.int (1 : Int32))] [(.int (1 : Int32))])) _
      refine XS.iconst X9.here hx rfl (hb hby at_58) ?_
      show Steps p.tables e below (T9.setTop (mkF m 59 #[.val (.int p1), .val (.int p2), .val (.int p3), .val (.int p4), .val (.int (0 : Int32)), .val (.double (FP.i2d ((p3 &&& (65535 : Int32)) - (32768 : Int32)))), .second, .val (.double (FP.i2d ((p4 &&& (65535 : Int32)) - (32768 : Int32)))), .second, .val (.ref b3), .val (.int (1 : Int32))] [(.int (1 : Int32)), (.int (1 : Int32))])) _
      refine XS.goto X9.here hx rfl (pc0 := 59) (pc' := 63) rfl (hb hby at_59) (by decide) (by decide) ?_
      show Steps p.tables e below (T9.setTop (mkF m 63 #[.val (.int p1), .val (.int p2), .val (.int p3), .val (.int p4), .val (.int (0 : Int32)), .val (.double (FP.i2d ((p3 &&& (65535 : Int32)) - (32768 : Int32)))), .second, .val (.double (FP.i2d ((p4 &&& (65535 : Int32)) - (32768 : Int32)))), .second, .val (.ref b3), .val (.int (1 : Int32))] [(.int (1 : Int32)), (.int (1 : Int32))])) _
      refine XS.icmpNo X9.here hx rfl (hb hby at_63) rfl (teq (rfl : (1 : Int32) = (1 : Int32))).2 ?_
      show Steps p.tables e below (T9.setTop (mkF m 66 #[.val (.int p1), .val (.int p2), .val (.int p3), .val (.int p4), .val (.int (0 : Int32)), .val (.double (FP.i2d ((p3 &&& (65535 : Int32)) - (32768 : Int32)))), .second, .val (.double (FP.i2d ((p4 &&& (65535 : Int32)) - (32768 : Int32)))), .second, .val (.ref b3), .val (.int (1 : Int32))] [])) _
      refine XS.aload X9.here hx rfl (hb hby at_66) rfl rfl ?_
      show Steps p.tables e below (T9.setTop (mkF m 68 #[.val (.int p1), .val (.int p2), .val (.int p3), .val (.int p4), .val (.int (0 : Int32)), .val (.double (FP.i2d ((p3 &&& (65535 : Int32)) - (32768 : Int32)))), .second, .val (.double (FP.i2d ((p4 &&& (65535 : Int32)) - (32768 : Int32)))), .second, .val (.ref b3), .val (.int (1 : Int32))] [(.ref b3)])) _
      refine st10.trans ?_
      show Steps p.tables e below (T10.setTop (mkF m 71 #[.val (.int p1), .val (.int p2), .val (.int p3), .val (.int p4), .val (.int (0 : Int32)), .val (.double (FP.i2d ((p3 &&& (65535 : Int32)) - (32768 : Int32)))), .second, .val (.double (FP.i2d ((p4 &&& (65535 : Int32)) - (32768 : Int32)))), .second, .val (.ref b3), .val (.int (1 : Int32))] [(.int (0 : Int32))])) _
      refine XS.iload X10.here hx rfl (hb hby at_71) rfl ?_
      show Steps p.tables e below (T10.setTop (mkF m 73 #[.val (.int p1), .val (.int p2), .val (.int p3), .val (.int p4), .val (.int (0 : Int32)), .val (.double (FP.i2d ((p3 &&& (65535 : Int32)) - (32768 : Int32)))), .second, .val (.double (FP.i2d ((p4 &&& (65535 : Int32)) - (32768 : Int32)))), .second, .val (.ref b3), .val (.int (1 : Int32))] [(.int (0 : Int32)), (.int (0 : Int32))])) _
      refine XS.icmpNo X10.here hx rfl (hb hby at_73) rfl (teq (rfl : (0 : Int32) = (0 : Int32))).2 ?_
      show Steps p.tables e below (T10.setTop (mkF m 76 #[.val (.int p1), .val (.int p2), .val (.int p3), .val (.int p4), .val (.int (0 : Int32)), .val (.double (FP.i2d ((p3 &&& (65535 : Int32)) - (32768 : Int32)))), .second, .val (.double (FP.i2d ((p4 &&& (65535 : Int32)) - (32768 : Int32)))), .second, .val (.ref b3), .val (.int (1 : Int32))] [])) _
      refine XS.iconst X10.here hx rfl (hb hby at_76) ?_
      show Steps p.tables e below (T10.setTop (mkF m 77 #[.val (.int p1), .val (.int p2), .val (.int p3), .val (.int p4), .val (.int (0 : Int32)), .val (.double (FP.i2d ((p3 &&& (65535 : Int32)) - (32768 : Int32)))), .second, .val (.double (FP.i2d ((p4 &&& (65535 : Int32)) - (32768 : Int32)))), .second, .val (.ref b3), .val (.int (1 : Int32))] [(.int (1 : Int32))])) _
      refine XS.goto X10.here hx rfl (pc0 := 77) (pc' := 81) rfl (hb hby at_77) (by decide) (by decide) ?_
      show Steps p.tables e below (T10.setTop (mkF m 81 #[.val (.int p1), .val (.int p2), .val (.int p3), .val (.int p4), .val (.int (0 : Int32)), .val (.double (FP.i2d ((p3 &&& (65535 : Int32)) - (32768 : Int32)))), .second, .val (.double (FP.i2d ((p4 &&& (65535 : Int32)) - (32768 : Int32)))), .second, .val (.ref b3), .val (.int (1 : Int32))] [(.int (1 : Int32))])) _
      exact retN X10 hx (t := .boolean) Bd.returns (by simp) (hb hby at_81) hr
    · show Q_rm0 Z p1 p2 p3 p4 h0 n0 _ T10.heap _
      rw [e10]
      exact ⟨rfl, N10⟩
  · have pre11 : ∀ t, Steps p.tables e below (s₁.setTop (mkF m 3 #[.val (.int p1), .val (.int p2), .val (.int p3), .val (.int p4), .unset, .unset, .unset, .unset, .unset, .unset, .unset] [(.int (1 : Int32))])) t → Steps p.tables e below (s₁.setTop (entryFrame m #[(.int p1), (.int p2), (.int p3), (.int p4)] maxLocals)) t := fun t k => pre1 t (by rw [hk]; exact k)
    obtain ⟨T12, h12, X12, e12, E12, A12, D12, -, st12⟩ := newO X0 hx hZ hown (hw _ (List.mem_of_getElem? (i := 2) rfl)) (hw _ (List.mem_of_getElem? (i := 3) rfl)) (hw _ (List.mem_of_getElem? (i := 4) rfl)) e0 (g := (mkF m 25 #[.val (.int p1), .val (.int p2), .val (.int p3), .val (.int p4), .val (.int (1 : Int32)), .val (.double (FP.i2d ((p3 &&& (65535 : Int32)) - (32768 : Int32)))), .second, .val (.double (FP.i2d ((p4 &&& (65535 : Int32)) - (32768 : Int32)))), .second, .unset, .unset] [])) rfl (hb hby at_25) (by decide) (by decide)
    obtain ⟨b12, g12⟩ : ∃ z, z = h0.size := ⟨_, rfl⟩
    rw [← g12] at A12 D12 st12
    have g_b12 : n0 ≤ b12 := Nat.le_trans Z0 (Nat.le_of_eq g12.symm)
    have sz_b12 : h0.size ≤ b12 := Nat.le_trans ((Keep.refl h0 [])).1 (Nat.le_of_eq g12.symm)
    have K12 : Keep h0 h12 [] := ((Keep.refl h0 [])).ext E12
    have F12_srid : Fld Z h12 b12 "com/example/wellknit/wellknit/Geometry" "srid" "I" (.int (0 : Int32)) := D12 (Or.inr (hw _ (List.mem_of_getElem? (i := 22) rfl))) (ty := .int) (by decide)
    have F12_coordinates : Fld Z h12 b12 "com/example/wellknit/wellknit/LineString" "coordinates" "[D" .null := D12 (Or.inr (hw _ (List.mem_of_getElem? (i := 24) rfl))) (ty := (.array .double)) (by decide)
    obtain ⟨_, _, ⟨T13, L13, k13, n13⟩, -, X13, ⟨Lc13, hQ13, l13, y13, z13⟩, st13⟩ := Jvm.LawKit.callS X12 hx (y := (⟨"com/example/wellknit/wellknit/LineStringIsEmptyPinLaw", "coords", "(IDD)[D"⟩ : MethodName)) hown (mvT hZ (hw _ (List.mem_of_getElem? (i := 5) rfl))) (mvT hZ (hw _ (List.mem_of_getElem? (i := 6) rfl))) (mvT hZ (hw _ (List.mem_of_getElem? (i := 7) rfl))) (mvT hZ (hw _ (List.mem_of_getElem? (i := 8) rfl))) (by decide) (backOf (W := 3) (rmC1 l Z a0 hw [] (FP.i2d ((p3 &&& (65535 : Int32)) - (32768 : Int32))) (FP.i2d ((p4 &&& (65535 : Int32)) - (32768 : Int32))) h12 n0 (Nat.le_trans Z0 K12.1)) hZ (hw _ (List.mem_of_getElem? (i := 8) rfl)) (hw _ (List.mem_of_getElem? (i := 7) rfl)) (by decide) (by decide)) (g := (mkF m 36 #[.val (.int p1), .val (.int p2), .val (.int p3), .val (.int p4), .val (.int (1 : Int32)), .val (.double (FP.i2d ((p3 &&& (65535 : Int32)) - (32768 : Int32)))), .second, .val (.double (FP.i2d ((p4 &&& (65535 : Int32)) - (32768 : Int32)))), .second, .unset, .unset] [(.double (FP.i2d ((p4 &&& (65535 : Int32)) - (32768 : Int32)))), (.double (FP.i2d ((p3 &&& (65535 : Int32)) - (32768 : Int32)))), (.int (1 : Int32)), (.int p1), (.ref b12), (.ref b12)])) rfl (by rw [hml]; rfl) (argsL := [(.int (1 : Int32)), (.double (FP.i2d ((p3 &&& (65535 : Int32)) - (32768 : Int32)))), (.double (FP.i2d ((p4 &&& (65535 : Int32)) - (32768 : Int32))))]) (rest := [(.int p1), (.ref b12), (.ref b12)]) (lenOf pd_rm0_0 rfl) rfl (by show 2 * 0 + _ ≤ _; exact Nat.le_of_eq rfl) (hb hby at_36) (fun _ _ => ⟨rfl, e12, (by decide : 1 + 1 ≤ _), (by decide : 2 + 2 ≤ _)⟩)
    dsimp only [Pt.U, Pt.locs, Pt.cells, Pt.slots] at X13 l13 y13 z13 st13 hQ13
    subst l13 y13 z13
    obtain ⟨r13, rfl, N13q, E13q, s13q, cl13, Ar13, S13⟩ := hQ13
    have N13 := Fr.app N0 N13q
    have ne_b12_r13 : b12 ≠ r13 := Nat.ne_of_lt (Nat.lt_of_lt_of_le A12.lt s13q)
    have K13 : Keep h0 T13.heap [] := (K12).ext E13q
    have f14 := (Exa.ext E13q A12)
    have f15 := (Fld.ext E13q F12_srid)
    have f16 := (Fld.ext E13q F12_coordinates)
    obtain ⟨_, _, ⟨T17, L17, k17, n17⟩, -, X17, ⟨Lc17, hQ17, l17, y17, z17⟩, st17⟩ := X13.specialBack hx (y := (⟨"com/example/wellknit/wellknit/LineString", "<init>", "(I[D)V"⟩ : MethodName)) rfl hown (mvT hZ (hw _ (List.mem_of_getElem? (i := 10) rfl))) (mvT hZ (hw _ (List.mem_of_getElem? (i := 11) rfl))) (mvT hZ (hw _ (List.mem_of_getElem? (i := 12) rfl))) (by decide) (backOf (W := 1) (rmL l Z a0 hw [] b12 p1 r13 T13.heap n0 (Nat.le_trans Z0 K13.1) f14 f15 f16 g_b12) hZ (hw _ (List.mem_of_getElem? (i := 12) rfl)) (hw _ (List.mem_of_getElem? (i := 4) rfl)) (by decide) (by decide)) (g := (mkF m 39 #[.val (.int p1), .val (.int p2), .val (.int p3), .val (.int p4), .val (.int (1 : Int32)), .val (.double (FP.i2d ((p3 &&& (65535 : Int32)) - (32768 : Int32)))), .second, .val (.double (FP.i2d ((p4 &&& (65535 : Int32)) - (32768 : Int32)))), .second, .unset, .unset] [(.ref r13), (.int p1), (.ref b12), (.ref b12)])) rfl (by rw [hml]; rfl) (Steps.refl _) (a := b12) (argsL := [(.int p1), (.ref r13)]) (rest := [(.ref b12)]) (lenOf pd_rm0_1 rfl) rfl (by show 2 * 0 + _ ≤ _; exact Nat.le_of_eq rfl) (hb hby at_39) (fun _ _ => ⟨rfl, rfl, (by decide : 2 + 0 ≤ _), (by decide : 4 + 0 ≤ _)⟩)
    dsimp only [Pt.U, Pt.locs, Pt.cells, Pt.slots] at X17 l17 y17 z17 st17 hQ17
    subst l17 y17 z17
    obtain ⟨rfl, N17q, K17q, A17q, G17q⟩ := hQ17
    have N17 := Fr.app N13 N17q
    have K17 : Keep h0 T17.heap [] := (K13).trans K17q (allS (Or.inr sz_b12) all0)
    have Ar17' : Arr Z T17.heap r13 cl13 .double := ⟨K17q.2.1 _ _ Ar13.1 (ninS (Ne.symm ne_b12_r13) nin0), Ar13.2⟩
    obtain ⟨cq18, kq18, q18a, q18b, q18c⟩ := isOf hZ rfl A17q
    obtain ⟨_, _, ⟨T18, L18, k18, n18⟩, -, X18, ⟨Lc18, hQ18, l18, y18, z18⟩, st18⟩ := X17.virtualBack hx (y := (⟨"com/example/wellknit/wellknit/LineString", "isEmpty", "()Z"⟩ : MethodName)) (z := (⟨"com/example/wellknit/wellknit/LineString", "isEmpty", "()Z"⟩ : MethodName)) hown (mvT hZ (hw _ (List.mem_of_getElem? (i := 25) rfl))) (mvT hZ (hw _ (List.mem_of_getElem? (i := 26) rfl))) (notFace_of_selects (args := #[]) (mvT hZ (hw _ (List.mem_of_getElem? (i := 28) rfl)))) (mvT hZ (hw _ (List.mem_of_getElem? (i := 28) rfl))) (mvT hZ (hw _ (List.mem_of_getElem? (i := 27) rfl))) (by decide) (backOf (W := 0) (rmE l Z a0 hw [] b12 r13 cl13 (2 : Int32) (0 : Int32) T17.heap n0 (Nat.le_trans Z0 K17.1) G17q Ar17' S13 (by decide) (by decide)) hZ (hw _ (List.mem_of_getElem? (i := 29) rfl)) (hw _ (List.mem_of_getElem? (i := 4) rfl)) (by decide) (by decide)) q18a q18c (g := (mkF m 46 #[.val (.int p1), .val (.int p2), .val (.int p3), .val (.int p4), .val (.int (1 : Int32)), .val (.double (FP.i2d ((p3 &&& (65535 : Int32)) - (32768 : Int32)))), .second, .val (.double (FP.i2d ((p4 &&& (65535 : Int32)) - (32768 : Int32)))), .second, .val (.ref b12), .unset] [(.ref b12)])) rfl (by rw [hml]; rfl) (Steps.refl _) (argsL := []) (rest := []) (lenOf pd_rm0_2 rfl) rfl (by show 2 * 0 + _ ≤ _; exact Nat.le_of_eq rfl) (hb hby at_46) (fun _ _ => ⟨rfl, rfl, (by decide : 2 + 0 ≤ _), (by decide : 4 + 0 ≤ _)⟩)
    dsimp only [Pt.U, Pt.locs, Pt.cells, Pt.slots] at X18 l18 y18 z18 st18 hQ18
    subst l18 y18 z18
    obtain ⟨rfl, N18q, e18⟩ := hQ18
    have N18 := Fr.app N17 N18q
    obtain ⟨cq19, kq19, q19a, q19b, q19c⟩ := isOf hZ e18 A17q
    obtain ⟨_, _, ⟨T19, L19, k19, n19⟩, -, X19, ⟨Lc19, hQ19, l19, y19, z19⟩, st19⟩ := X18.virtualBack hx (y := (⟨"com/example/wellknit/wellknit/LineString", "pointCount", "()I"⟩ : MethodName)) (z := (⟨"com/example/wellknit/wellknit/LineString", "pointCount", "()I"⟩ : MethodName)) hown (mvT hZ (hw _ (List.mem_of_getElem? (i := 30) rfl))) (mvT hZ (hw _ (List.mem_of_getElem? (i := 31) rfl))) (notFace_of_selects (args := #[]) (mvT hZ (hw _ (List.mem_of_getElem? (i := 33) rfl)))) (mvT hZ (hw _ (List.mem_of_getElem? (i := 33) rfl))) (mvT hZ (hw _ (List.mem_of_getElem? (i := 32) rfl))) (by decide) (backOf (W := 0) (rmP l Z a0 hw [] b12 r13 cl13 (2 : Int32) (1 : Int32) T17.heap n0 (Nat.le_trans Z0 K17.1) G17q Ar17' S13 (by decide) (by decide)) hZ (hw _ (List.mem_of_getElem? (i := 34) rfl)) (hw _ (List.mem_of_getElem? (i := 4) rfl)) (by decide) (by decide)) q19a q19c (g := (mkF m 68 #[.val (.int p1), .val (.int p2), .val (.int p3), .val (.int p4), .val (.int (1 : Int32)), .val (.double (FP.i2d ((p3 &&& (65535 : Int32)) - (32768 : Int32)))), .second, .val (.double (FP.i2d ((p4 &&& (65535 : Int32)) - (32768 : Int32)))), .second, .val (.ref b12), .val (.int (0 : Int32))] [(.ref b12)])) rfl (by rw [hml]; rfl) (Steps.refl _) (argsL := []) (rest := []) (lenOf pd_rm0_3 rfl) rfl (by show 2 * 0 + _ ≤ _; exact Nat.le_of_eq rfl) (hb hby at_68) (fun _ _ => ⟨rfl, e18, (by decide : 2 + 0 ≤ _), (by decide : 4 + 0 ≤ _)⟩)
    dsimp only [Pt.U, Pt.locs, Pt.cells, Pt.slots] at X19 l19 y19 z19 st19 hQ19
    subst l19 y19 z19
    obtain ⟨rfl, N19q, e19⟩ := hQ19
    have N19 := Fr.app N18 N19q
    obtain ⟨fs, hr, hrun, hended, hW, hsame⟩ := X19.leave (v := some (.int (1 : Int32))) (fun h => by rw [Bd.returns] at h; cases h)
    refine ⟨_, _, pre11 _ ?_, hrun, hended, _, _, rfl, ?_, ⟨_, rfl⟩, hW, hsame.mono (by decide) (by decide)⟩
    · show Steps p.tables e below (s₁.setTop (mkF m 3 #[.val (.int p1), .val (.int p2), .val (.int p3), .val (.int p4), .unset, .unset, .unset, .unset, .unset, .unset, .unset] [(.int (1 : Int32))])) _
      refine XS.istore X0.here hx rfl (hb hby at_3) rfl (l' := #[.val (.int p1), .val (.int p2), .val (.int p3), .val (.int p4), .val (.int (1 : Int32)), .unset, .unset, .unset, .unset, .unset, .unset]) rfl ?_
      show Steps p.tables e below (s₁.setTop (mkF m 5 #[.val (.int p1), .val (.int p2), .val (.int p3), .val (.int p4), .val (.int (1 : Int32)), .unset, .unset, .unset, .unset, .unset, .unset] [])) _
      refine XS.iloadN X0.here hx rfl (hb hby at_5) rfl ?_
      show Steps p.tables e below (s₁.setTop (mkF m 6 #[.val (.int p1), .val (.int p2), .val (.int p3), .val (.int p4), .val (.int (1 : Int32)), .unset, .unset, .unset, .unset, .unset, .unset] [(.int p3)])) _
      refine X0.ldcInt hx hown (mvT hZ (hw _ (List.mem_of_getElem? (i := 0) rfl))) (g := (mkF m 6 #[.val (.int p1), .val (.int p2), .val (.int p3), .val (.int p4), .val (.int (1 : Int32)), .unset, .unset, .unset, .unset, .unset, .unset] [(.int p3)])) rfl (hb hby at_6) _ ?_
      show Steps p.tables e below (s₁.setTop (mkF m 8 #[.val (.int p1), .val (.int p2), .val (.int p3), .val (.int p4), .val (.int (1 : Int32)), .unset, .unset, .unset, .unset, .unset, .unset] [(.int (65535 : Int32)), (.int p3)])) _
      refine XS.iand X0.here hx rfl (hb hby at_8) rfl ?_
      show Steps p.tables e below (s₁.setTop (mkF m 9 #[.val (.int p1), .val (.int p2), .val (.int p3), .val (.int p4), .val (.int (1 : Int32)), .unset, .unset, .unset, .unset, .unset, .unset] [(.int (p3 &&& (65535 : Int32)))])) _
      refine X0.ldcInt hx hown (mvT hZ (hw _ (List.mem_of_getElem? (i := 1) rfl))) (g := (mkF m 9 #[.val (.int p1), .val (.int p2), .val (.int p3), .val (.int p4), .val (.int (1 : Int32)), .unset, .unset, .unset, .unset, .unset, .unset] [(.int (p3 &&& (65535 : Int32)))])) rfl (hb hby at_9) _ ?_
      show Steps p.tables e below (s₁.setTop (mkF m 11 #[.val (.int p1), .val (.int p2), .val (.int p3), .val (.int p4), .val (.int (1 : Int32)), .unset, .unset, .unset, .unset, .unset, .unset] [(.int (32768 : Int32)), (.int (p3 &&& (65535 : Int32)))])) _
      refine XS.isub X0.here hx rfl (hb hby at_11) rfl ?_
      show Steps p.tables e below (s₁.setTop (mkF m 12 #[.val (.int p1), .val (.int p2), .val (.int p3), .val (.int p4), .val (.int (1 : Int32)), .unset, .unset, .unset, .unset, .unset, .unset] [(.int ((p3 &&& (65535 : Int32)) - (32768 : Int32)))])) _
      refine XS.i2dS X0.here hx rfl (hb hby at_12) rfl (v := (FP.i2d ((p3 &&& (65535 : Int32)) - (32768 : Int32)))) rfl ?_
      show Steps p.tables e below (s₁.setTop (mkF m 13 #[.val (.int p1), .val (.int p2), .val (.int p3), .val (.int p4), .val (.int (1 : Int32)), .unset, .unset, .unset, .unset, .unset, .unset] [(.double (FP.i2d ((p3 &&& (65535 : Int32)) - (32768 : Int32))))])) _
      refine XS.dstore X0.here hx rfl (hb hby at_13) rfl (l' := #[.val (.int p1), .val (.int p2), .val (.int p3), .val (.int p4), .val (.int (1 : Int32)), .val (.double (FP.i2d ((p3 &&& (65535 : Int32)) - (32768 : Int32)))), .second, .unset, .unset, .unset, .unset]) rfl ?_
      show Steps p.tables e below (s₁.setTop (mkF m 15 #[.val (.int p1), .val (.int p2), .val (.int p3), .val (.int p4), .val (.int (1 : Int32)), .val (.double (FP.i2d ((p3 &&& (65535 : Int32)) - (32768 : Int32)))), .second, .unset, .unset, .unset, .unset] [])) _
      refine XS.iloadN X0.here hx rfl (hb hby at_15) rfl ?_
      show Steps p.tables e below (s₁.setTop (mkF m 16 #[.val (.int p1), .val (.int p2), .val (.int p3), .val (.int p4), .val (.int (1 : Int32)), .val (.double (FP.i2d ((p3 &&& (65535 : Int32)) - (32768 : Int32)))), .second, .unset, .unset, .unset, .unset] [(.int p4)])) _
      refine X0.ldcInt hx hown (mvT hZ (hw _ (List.mem_of_getElem? (i := 0) rfl))) (g := (mkF m 16 #[.val (.int p1), .val (.int p2), .val (.int p3), .val (.int p4), .val (.int (1 : Int32)), .val (.double (FP.i2d ((p3 &&& (65535 : Int32)) - (32768 : Int32)))), .second, .unset, .unset, .unset, .unset] [(.int p4)])) rfl (hb hby at_16) _ ?_
      show Steps p.tables e below (s₁.setTop (mkF m 18 #[.val (.int p1), .val (.int p2), .val (.int p3), .val (.int p4), .val (.int (1 : Int32)), .val (.double (FP.i2d ((p3 &&& (65535 : Int32)) - (32768 : Int32)))), .second, .unset, .unset, .unset, .unset] [(.int (65535 : Int32)), (.int p4)])) _
      refine XS.iand X0.here hx rfl (hb hby at_18) rfl ?_
      show Steps p.tables e below (s₁.setTop (mkF m 19 #[.val (.int p1), .val (.int p2), .val (.int p3), .val (.int p4), .val (.int (1 : Int32)), .val (.double (FP.i2d ((p3 &&& (65535 : Int32)) - (32768 : Int32)))), .second, .unset, .unset, .unset, .unset] [(.int (p4 &&& (65535 : Int32)))])) _
      refine X0.ldcInt hx hown (mvT hZ (hw _ (List.mem_of_getElem? (i := 1) rfl))) (g := (mkF m 19 #[.val (.int p1), .val (.int p2), .val (.int p3), .val (.int p4), .val (.int (1 : Int32)), .val (.double (FP.i2d ((p3 &&& (65535 : Int32)) - (32768 : Int32)))), .second, .unset, .unset, .unset, .unset] [(.int (p4 &&& (65535 : Int32)))])) rfl (hb hby at_19) _ ?_
      show Steps p.tables e below (s₁.setTop (mkF m 21 #[.val (.int p1), .val (.int p2), .val (.int p3), .val (.int p4), .val (.int (1 : Int32)), .val (.double (FP.i2d ((p3 &&& (65535 : Int32)) - (32768 : Int32)))), .second, .unset, .unset, .unset, .unset] [(.int (32768 : Int32)), (.int (p4 &&& (65535 : Int32)))])) _
      refine XS.isub X0.here hx rfl (hb hby at_21) rfl ?_
      show Steps p.tables e below (s₁.setTop (mkF m 22 #[.val (.int p1), .val (.int p2), .val (.int p3), .val (.int p4), .val (.int (1 : Int32)), .val (.double (FP.i2d ((p3 &&& (65535 : Int32)) - (32768 : Int32)))), .second, .unset, .unset, .unset, .unset] [(.int ((p4 &&& (65535 : Int32)) - (32768 : Int32)))])) _
      refine XS.i2dS X0.here hx rfl (hb hby at_22) rfl (v := (FP.i2d ((p4 &&& (65535 : Int32)) - (32768 : Int32)))) rfl ?_
      show Steps p.tables e below (s₁.setTop (mkF m 23 #[.val (.int p1), .val (.int p2), .val (.int p3), .val (.int p4), .val (.int (1 : Int32)), .val (.double (FP.i2d ((p3 &&& (65535 : Int32)) - (32768 : Int32)))), .second, .unset, .unset, .unset, .unset] [(.double (FP.i2d ((p4 &&& (65535 : Int32)) - (32768 : Int32))))])) _
      refine XS.dstore X0.here hx rfl (hb hby at_23) rfl (l' := #[.val (.int p1), .val (.int p2), .val (.int p3), .val (.int p4), .val (.int (1 : Int32)), .val (.double (FP.i2d ((p3 &&& (65535 : Int32)) - (32768 : Int32)))), .second, .val (.double (FP.i2d ((p4 &&& (65535 : Int32)) - (32768 : Int32)))), .second, .unset, .unset]) rfl ?_
      show Steps p.tables e below (s₁.setTop (mkF m 25 #[.val (.int p1), .val (.int p2), .val (.int p3), .val (.int p4), .val (.int (1 : Int32)), .val (.double (FP.i2d ((p3 &&& (65535 : Int32)) - (32768 : Int32)))), .second, .val (.double (FP.i2d ((p4 &&& (65535 : Int32)) - (32768 : Int32)))), .second, .unset, .unset] [])) _
      refine st12 _ ?_
      show Steps p.tables e below (T12.setTop (mkF m 28 #[.val (.int p1), .val (.int p2), .val (.int p3), .val (.int p4), .val (.int (1 : Int32)), .val (.double (FP.i2d ((p3 &&& (65535 : Int32)) - (32768 : Int32)))), .second, .val (.double (FP.i2d ((p4 &&& (65535 : Int32)) - (32768 : Int32)))), .second, .unset, .unset] [(.ref b12)])) _
      refine XS.dup X12.here hx rfl (hb hby at_28) rfl rfl ?_
      show Steps p.tables e below (T12.setTop (mkF m 29 #[.val (.int p1), .val (.int p2), .val (.int p3), .val (.int p4), .val (.int (1 : Int32)), .val (.double (FP.i2d ((p3 &&& (65535 : Int32)) - (32768 : Int32)))), .second, .val (.double (FP.i2d ((p4 &&& (65535 : Int32)) - (32768 : Int32)))), .second, .unset, .unset] [(.ref b12), (.ref b12)])) _
      refine XS.iloadN X12.here hx rfl (hb hby at_29) rfl ?_
      show Steps p.tables e below (T12.setTop (mkF m 30 #[.val (.int p1), .val (.int p2), .val (.int p3), .val (.int p4), .val (.int (1 : Int32)), .val (.double (FP.i2d ((p3 &&& (65535 : Int32)) - (32768 : Int32)))), .second, .val (.double (FP.i2d ((p4 &&& (65535 : Int32)) - (32768 : Int32)))), .second, .unset, .unset] [(.int p1), (.ref b12), (.ref b12)])) _
      refine XS.iload X12.here hx rfl (hb hby at_30) rfl ?_
      show Steps p.tables e below (T12.setTop (mkF m 32 #[.val (.int p1), .val (.int p2), .val (.int p3), .val (.int p4), .val (.int (1 : Int32)), .val (.double (FP.i2d ((p3 &&& (65535 : Int32)) - (32768 : Int32)))), .second, .val (.double (FP.i2d ((p4 &&& (65535 : Int32)) - (32768 : Int32)))), .second, .unset, .unset] [(.int (1 : Int32)), (.int p1), (.ref b12), (.ref b12)])) _
      refine XS.dload X12.here hx rfl (hb hby at_32) rfl ?_
      show Steps p.tables e below (T12.setTop (mkF m 34 #[.val (.int p1), .val (.int p2), .val (.int p3), .val (.int p4), .val (.int (1 : Int32)), .val (.double (FP.i2d ((p3 &&& (65535 : Int32)) - (32768 : Int32)))), .second, .val (.double (FP.i2d ((p4 &&& (65535 : Int32)) - (32768 : Int32)))), .second, .unset, .unset] [(.double (FP.i2d ((p3 &&& (65535 : Int32)) - (32768 : Int32)))), (.int (1 : Int32)), (.int p1), (.ref b12), (.ref b12)])) _
      refine XS.dload X12.here hx rfl (hb hby at_34) rfl ?_
      show Steps p.tables e below (T12.setTop (mkF m 36 #[.val (.int p1), .val (.int p2), .val (.int p3), .val (.int p4), .val (.int (1 : Int32)), .val (.double (FP.i2d ((p3 &&& (65535 : Int32)) - (32768 : Int32)))), .second, .val (.double (FP.i2d ((p4 &&& (65535 : Int32)) - (32768 : Int32)))), .second, .unset, .unset] [(.double (FP.i2d ((p4 &&& (65535 : Int32)) - (32768 : Int32)))), (.double (FP.i2d ((p3 &&& (65535 : Int32)) - (32768 : Int32)))), (.int (1 : Int32)), (.int p1), (.ref b12), (.ref b12)])) _
      refine st13 _ ?_
      show Steps p.tables e below (T13.setTop (mkF m 39 #[.val (.int p1), .val (.int p2), .val (.int p3), .val (.int p4), .val (.int (1 : Int32)), .val (.double (FP.i2d ((p3 &&& (65535 : Int32)) - (32768 : Int32)))), .second, .val (.double (FP.i2d ((p4 &&& (65535 : Int32)) - (32768 : Int32)))), .second, .unset, .unset] [(.ref r13), (.int p1), (.ref b12), (.ref b12)])) _
      refine st17.trans ?_
      show Steps p.tables e below (T17.setTop (mkF m 42 #[.val (.int p1), .val (.int p2), .val (.int p3), .val (.int p4), .val (.int (1 : Int32)), .val (.double (FP.i2d ((p3 &&& (65535 : Int32)) - (32768 : Int32)))), .second, .val (.double (FP.i2d ((p4 &&& (65535 : Int32)) - (32768 : Int32)))), .second, .unset, .unset] [(.ref b12)])) _
      refine XS.astore X17.here hx rfl (hb hby at_42) rfl rfl (l' := #[.val (.int p1), .val (.int p2), .val (.int p3), .val (.int p4), .val (.int (1 : Int32)), .val (.double (FP.i2d ((p3 &&& (65535 : Int32)) - (32768 : Int32)))), .second, .val (.double (FP.i2d ((p4 &&& (65535 : Int32)) - (32768 : Int32)))), .second, .val (.ref b12), .unset]) rfl ?_
      show Steps p.tables e below (T17.setTop (mkF m 44 #[.val (.int p1), .val (.int p2), .val (.int p3), .val (.int p4), .val (.int (1 : Int32)), .val (.double (FP.i2d ((p3 &&& (65535 : Int32)) - (32768 : Int32)))), .second, .val (.double (FP.i2d ((p4 &&& (65535 : Int32)) - (32768 : Int32)))), .second, .val (.ref b12), .unset] [])) _
      refine XS.aload X17.here hx rfl (hb hby at_44) rfl rfl ?_
      show Steps p.tables e below (T17.setTop (mkF m 46 #[.val (.int p1), .val (.int p2), .val (.int p3), .val (.int p4), .val (.int (1 : Int32)), .val (.double (FP.i2d ((p3 &&& (65535 : Int32)) - (32768 : Int32)))), .second, .val (.double (FP.i2d ((p4 &&& (65535 : Int32)) - (32768 : Int32)))), .second, .val (.ref b12), .unset] [(.ref b12)])) _
      refine st18.trans ?_
      show Steps p.tables e below (T18.setTop (mkF m 49 #[.val (.int p1), .val (.int p2), .val (.int p3), .val (.int p4), .val (.int (1 : Int32)), .val (.double (FP.i2d ((p3 &&& (65535 : Int32)) - (32768 : Int32)))), .second, .val (.double (FP.i2d ((p4 &&& (65535 : Int32)) - (32768 : Int32)))), .second, .val (.ref b12), .unset] [(.int (0 : Int32))])) _
      refine XS.istore X18.here hx rfl (hb hby at_49) rfl (l' := #[.val (.int p1), .val (.int p2), .val (.int p3), .val (.int p4), .val (.int (1 : Int32)), .val (.double (FP.i2d ((p3 &&& (65535 : Int32)) - (32768 : Int32)))), .second, .val (.double (FP.i2d ((p4 &&& (65535 : Int32)) - (32768 : Int32)))), .second, .val (.ref b12), .val (.int (0 : Int32))]) rfl ?_
      show Steps p.tables e below (T18.setTop (mkF m 51 #[.val (.int p1), .val (.int p2), .val (.int p3), .val (.int p4), .val (.int (1 : Int32)), .val (.double (FP.i2d ((p3 &&& (65535 : Int32)) - (32768 : Int32)))), .second, .val (.double (FP.i2d ((p4 &&& (65535 : Int32)) - (32768 : Int32)))), .second, .val (.ref b12), .val (.int (0 : Int32))] [])) _
      refine XS.iload X18.here hx rfl (hb hby at_51) rfl ?_
      show Steps p.tables e below (T18.setTop (mkF m 53 #[.val (.int p1), .val (.int p2), .val (.int p3), .val (.int p4), .val (.int (1 : Int32)), .val (.double (FP.i2d ((p3 &&& (65535 : Int32)) - (32768 : Int32)))), .second, .val (.double (FP.i2d ((p4 &&& (65535 : Int32)) - (32768 : Int32)))), .second, .val (.ref b12), .val (.int (0 : Int32))] [(.int (0 : Int32))])) _
      refine XS.iload X18.here hx rfl (hb hby at_53) rfl ?_
      show Steps p.tables e below (T18.setTop (mkF m 55 #[.val (.int p1), .val (.int p2), .val (.int p3), .val (.int p4), .val (.int (1 : Int32)), .val (.double (FP.i2d ((p3 &&& (65535 : Int32)) - (32768 : Int32)))), .second, .val (.double (FP.i2d ((p4 &&& (65535 : Int32)) - (32768 : Int32)))), .second, .val (.ref b12), .val (.int (0 : Int32))] [(.int (1 : Int32)), (.int (0 : Int32))])) _
      refine XS.ifYes X18.here hx rfl (pc0 := 55) (pc' := 62) rfl (hb hby at_55) rfl ((if0 _ _).trans (feq (by decide : ¬ ((1 : Int32) = (0 : Int32)))).2) (by decide) (by decide) ?_
      show Steps p.tables e below (T18.setTop (mkF m 62 #[.val (.int p1), .val (.int p2), .val (.int p3), .val (.int p4), .val (.int (1 : Int32)), .val (.double (FP.i2d ((p3 &&& (65535 : Int32)) - (32768 : Int32)))), .second, .val (.double (FP.i2d ((p4 &&& (65535 : Int32)) - (32768 : Int32)))), .second, .val (.ref b12), .val (.int (0 : Int32))] [(.int (0 : Int32))])) _
      refine XS.iconst X18.here hx rfl (hb hby at_62) ?_
      show Steps p.tables e below (T18.setTop (mkF m 63 #[.val (.int p1), .val (.int p2), .val (.int p3), .val (.int p4), .val (.int (1 : Int32)), .val (.double (FP.i2d ((p3 &&& (65535 : Int32)) - (32768 : Int32)))), .second, .val (.double (FP.i2d ((p4 &&& (65535 : Int32)) - (32768 : Int32)))), .second, .val (.ref b12), .val (.int (0 : Int32))] [(.int (0 : Int32)), (.int (0 : Int32))])) _
      refine XS.icmpNo X18.here hx rfl (hb hby at_63) rfl (teq (rfl : (0 : Int32) = (0 : Int32))).2 ?_
      show Steps p.tables e below (T18.setTop (mkF m 66 #[.val (.int p1), .val (.int p2), .val (.int p3), .val (.int p4), .val (.int (1 : Int32)), .val (.double (FP.i2d ((p3 &&& (65535 : Int32)) - (32768 : Int32)))), .second, .val (.double (FP.i2d ((p4 &&& (65535 : Int32)) - (32768 : Int32)))), .second, .val (.ref b12), .val (.int (0 : Int32))] [])) _
      refine XS.aload X18.here hx rfl (hb hby at_66) rfl rfl ?_
      show Steps p.tables e below (T18.setTop (mkF m 68 #[.val (.int p1), .val (.int p2), .val (.int p3), .val (.int p4), .val (.int (1 : Int32)), .val (.double (FP.i2d ((p3 &&& (65535 : Int32)) - (32768 : Int32)))), .second, .val (.double (FP.i2d ((p4 &&& (65535 : Int32)) - (32768 : Int32)))), .second, .val (.ref b12), .val (.int (0 : Int32))] [(.ref b12)])) _
      refine st19.trans ?_
      show Steps p.tables e below (T19.setTop (mkF m 71 #[.val (.int p1), .val (.int p2), .val (.int p3), .val (.int p4), .val (.int (1 : Int32)), .val (.double (FP.i2d ((p3 &&& (65535 : Int32)) - (32768 : Int32)))), .second, .val (.double (FP.i2d ((p4 &&& (65535 : Int32)) - (32768 : Int32)))), .second, .val (.ref b12), .val (.int (0 : Int32))] [(.int (1 : Int32))])) _
      refine XS.iload X19.here hx rfl (hb hby at_71) rfl ?_
      show Steps p.tables e below (T19.setTop (mkF m 73 #[.val (.int p1), .val (.int p2), .val (.int p3), .val (.int p4), .val (.int (1 : Int32)), .val (.double (FP.i2d ((p3 &&& (65535 : Int32)) - (32768 : Int32)))), .second, .val (.double (FP.i2d ((p4 &&& (65535 : Int32)) - (32768 : Int32)))), .second, .val (.ref b12), .val (.int (0 : Int32))] [(.int (1 : Int32)), (.int (1 : Int32))])) _
      refine XS.icmpNo X19.here hx rfl (hb hby at_73) rfl (teq (rfl : (1 : Int32) = (1 : Int32))).2 ?_
      show Steps p.tables e below (T19.setTop (mkF m 76 #[.val (.int p1), .val (.int p2), .val (.int p3), .val (.int p4), .val (.int (1 : Int32)), .val (.double (FP.i2d ((p3 &&& (65535 : Int32)) - (32768 : Int32)))), .second, .val (.double (FP.i2d ((p4 &&& (65535 : Int32)) - (32768 : Int32)))), .second, .val (.ref b12), .val (.int (0 : Int32))] [])) _
      refine XS.iconst X19.here hx rfl (hb hby at_76) ?_
      show Steps p.tables e below (T19.setTop (mkF m 77 #[.val (.int p1), .val (.int p2), .val (.int p3), .val (.int p4), .val (.int (1 : Int32)), .val (.double (FP.i2d ((p3 &&& (65535 : Int32)) - (32768 : Int32)))), .second, .val (.double (FP.i2d ((p4 &&& (65535 : Int32)) - (32768 : Int32)))), .second, .val (.ref b12), .val (.int (0 : Int32))] [(.int (1 : Int32))])) _
      refine XS.goto X19.here hx rfl (pc0 := 77) (pc' := 81) rfl (hb hby at_77) (by decide) (by decide) ?_
      show Steps p.tables e below (T19.setTop (mkF m 81 #[.val (.int p1), .val (.int p2), .val (.int p3), .val (.int p4), .val (.int (1 : Int32)), .val (.double (FP.i2d ((p3 &&& (65535 : Int32)) - (32768 : Int32)))), .second, .val (.double (FP.i2d ((p4 &&& (65535 : Int32)) - (32768 : Int32)))), .second, .val (.ref b12), .val (.int (0 : Int32))] [(.int (1 : Int32))])) _
      exact retN X19 hx (t := .boolean) Bd.returns (by simp) (hb hby at_81) hr
    · show Q_rm0 Z p1 p2 p3 p4 h0 n0 _ T19.heap _
      rw [e19]
      exact ⟨rfl, N19⟩
  · have pre20 : ∀ t, Steps p.tables e below (s₁.setTop (mkF m 3 #[.val (.int p1), .val (.int p2), .val (.int p3), .val (.int p4), .unset, .unset, .unset, .unset, .unset, .unset, .unset] [(.int (2 : Int32))])) t → Steps p.tables e below (s₁.setTop (entryFrame m #[(.int p1), (.int p2), (.int p3), (.int p4)] maxLocals)) t := fun t k => pre1 t (by rw [hk]; exact k)
    obtain ⟨T21, h21, X21, e21, E21, A21, D21, -, st21⟩ := newO X0 hx hZ hown (hw _ (List.mem_of_getElem? (i := 2) rfl)) (hw _ (List.mem_of_getElem? (i := 3) rfl)) (hw _ (List.mem_of_getElem? (i := 4) rfl)) e0 (g := (mkF m 25 #[.val (.int p1), .val (.int p2), .val (.int p3), .val (.int p4), .val (.int (2 : Int32)), .val (.double (FP.i2d ((p3 &&& (65535 : Int32)) - (32768 : Int32)))), .second, .val (.double (FP.i2d ((p4 &&& (65535 : Int32)) - (32768 : Int32)))), .second, .unset, .unset] [])) rfl (hb hby at_25) (by decide) (by decide)
    obtain ⟨b21, g21⟩ : ∃ z, z = h0.size := ⟨_, rfl⟩
    rw [← g21] at A21 D21 st21
    have g_b21 : n0 ≤ b21 := Nat.le_trans Z0 (Nat.le_of_eq g21.symm)
    have sz_b21 : h0.size ≤ b21 := Nat.le_trans ((Keep.refl h0 [])).1 (Nat.le_of_eq g21.symm)
    have K21 : Keep h0 h21 [] := ((Keep.refl h0 [])).ext E21
    have F21_srid : Fld Z h21 b21 "com/example/wellknit/wellknit/Geometry" "srid" "I" (.int (0 : Int32)) := D21 (Or.inr (hw _ (List.mem_of_getElem? (i := 22) rfl))) (ty := .int) (by decide)
    have F21_coordinates : Fld Z h21 b21 "com/example/wellknit/wellknit/LineString" "coordinates" "[D" .null := D21 (Or.inr (hw _ (List.mem_of_getElem? (i := 24) rfl))) (ty := (.array .double)) (by decide)
    obtain ⟨_, _, ⟨T22, L22, k22, n22⟩, -, X22, ⟨Lc22, hQ22, l22, y22, z22⟩, st22⟩ := Jvm.LawKit.callS X21 hx (y := (⟨"com/example/wellknit/wellknit/LineStringIsEmptyPinLaw", "coords", "(IDD)[D"⟩ : MethodName)) hown (mvT hZ (hw _ (List.mem_of_getElem? (i := 5) rfl))) (mvT hZ (hw _ (List.mem_of_getElem? (i := 6) rfl))) (mvT hZ (hw _ (List.mem_of_getElem? (i := 7) rfl))) (mvT hZ (hw _ (List.mem_of_getElem? (i := 8) rfl))) (by decide) (backOf (W := 3) (rmC2 l Z a0 hw [] (FP.i2d ((p3 &&& (65535 : Int32)) - (32768 : Int32))) (FP.i2d ((p4 &&& (65535 : Int32)) - (32768 : Int32))) h21 n0 (Nat.le_trans Z0 K21.1)) hZ (hw _ (List.mem_of_getElem? (i := 8) rfl)) (hw _ (List.mem_of_getElem? (i := 7) rfl)) (by decide) (by decide)) (g := (mkF m 36 #[.val (.int p1), .val (.int p2), .val (.int p3), .val (.int p4), .val (.int (2 : Int32)), .val (.double (FP.i2d ((p3 &&& (65535 : Int32)) - (32768 : Int32)))), .second, .val (.double (FP.i2d ((p4 &&& (65535 : Int32)) - (32768 : Int32)))), .second, .unset, .unset] [(.double (FP.i2d ((p4 &&& (65535 : Int32)) - (32768 : Int32)))), (.double (FP.i2d ((p3 &&& (65535 : Int32)) - (32768 : Int32)))), (.int (2 : Int32)), (.int p1), (.ref b21), (.ref b21)])) rfl (by rw [hml]; rfl) (argsL := [(.int (2 : Int32)), (.double (FP.i2d ((p3 &&& (65535 : Int32)) - (32768 : Int32)))), (.double (FP.i2d ((p4 &&& (65535 : Int32)) - (32768 : Int32))))]) (rest := [(.int p1), (.ref b21), (.ref b21)]) (lenOf pd_rm0_0 rfl) rfl (by show 2 * 0 + _ ≤ _; exact Nat.le_of_eq rfl) (hb hby at_36) (fun _ _ => ⟨rfl, e21, (by decide : 1 + 1 ≤ _), (by decide : 2 + 4 ≤ _)⟩)
    dsimp only [Pt.U, Pt.locs, Pt.cells, Pt.slots] at X22 l22 y22 z22 st22 hQ22
    subst l22 y22 z22
    obtain ⟨r22, rfl, N22q, E22q, s22q, cl22, Ar22, S22⟩ := hQ22
    have N22 := Fr.app N0 N22q
    have ne_b21_r22 : b21 ≠ r22 := Nat.ne_of_lt (Nat.lt_of_lt_of_le A21.lt s22q)
    have K22 : Keep h0 T22.heap [] := (K21).ext E22q
    have f23 := (Exa.ext E22q A21)
    have f24 := (Fld.ext E22q F21_srid)
    have f25 := (Fld.ext E22q F21_coordinates)
    obtain ⟨_, _, ⟨T26, L26, k26, n26⟩, -, X26, ⟨Lc26, hQ26, l26, y26, z26⟩, st26⟩ := X22.specialBack hx (y := (⟨"com/example/wellknit/wellknit/LineString", "<init>", "(I[D)V"⟩ : MethodName)) rfl hown (mvT hZ (hw _ (List.mem_of_getElem? (i := 10) rfl))) (mvT hZ (hw _ (List.mem_of_getElem? (i := 11) rfl))) (mvT hZ (hw _ (List.mem_of_getElem? (i := 12) rfl))) (by decide) (backOf (W := 1) (rmL l Z a0 hw [] b21 p1 r22 T22.heap n0 (Nat.le_trans Z0 K22.1) f23 f24 f25 g_b21) hZ (hw _ (List.mem_of_getElem? (i := 12) rfl)) (hw _ (List.mem_of_getElem? (i := 4) rfl)) (by decide) (by decide)) (g := (mkF m 39 #[.val (.int p1), .val (.int p2), .val (.int p3), .val (.int p4), .val (.int (2 : Int32)), .val (.double (FP.i2d ((p3 &&& (65535 : Int32)) - (32768 : Int32)))), .second, .val (.double (FP.i2d ((p4 &&& (65535 : Int32)) - (32768 : Int32)))), .second, .unset, .unset] [(.ref r22), (.int p1), (.ref b21), (.ref b21)])) rfl (by rw [hml]; rfl) (Steps.refl _) (a := b21) (argsL := [(.int p1), (.ref r22)]) (rest := [(.ref b21)]) (lenOf pd_rm0_1 rfl) rfl (by show 2 * 0 + _ ≤ _; exact Nat.le_of_eq rfl) (hb hby at_39) (fun _ _ => ⟨rfl, rfl, (by decide : 2 + 0 ≤ _), (by decide : 6 + 0 ≤ _)⟩)
    dsimp only [Pt.U, Pt.locs, Pt.cells, Pt.slots] at X26 l26 y26 z26 st26 hQ26
    subst l26 y26 z26
    obtain ⟨rfl, N26q, K26q, A26q, G26q⟩ := hQ26
    have N26 := Fr.app N22 N26q
    have K26 : Keep h0 T26.heap [] := (K22).trans K26q (allS (Or.inr sz_b21) all0)
    have Ar26' : Arr Z T26.heap r22 cl22 .double := ⟨K26q.2.1 _ _ Ar22.1 (ninS (Ne.symm ne_b21_r22) nin0), Ar22.2⟩
    obtain ⟨cq27, kq27, q27a, q27b, q27c⟩ := isOf hZ rfl A26q
    obtain ⟨_, _, ⟨T27, L27, k27, n27⟩, -, X27, ⟨Lc27, hQ27, l27, y27, z27⟩, st27⟩ := X26.virtualBack hx (y := (⟨"com/example/wellknit/wellknit/LineString", "isEmpty", "()Z"⟩ : MethodName)) (z := (⟨"com/example/wellknit/wellknit/LineString", "isEmpty", "()Z"⟩ : MethodName)) hown (mvT hZ (hw _ (List.mem_of_getElem? (i := 25) rfl))) (mvT hZ (hw _ (List.mem_of_getElem? (i := 26) rfl))) (notFace_of_selects (args := #[]) (mvT hZ (hw _ (List.mem_of_getElem? (i := 28) rfl)))) (mvT hZ (hw _ (List.mem_of_getElem? (i := 28) rfl))) (mvT hZ (hw _ (List.mem_of_getElem? (i := 27) rfl))) (by decide) (backOf (W := 0) (rmE l Z a0 hw [] b21 r22 cl22 (4 : Int32) (0 : Int32) T26.heap n0 (Nat.le_trans Z0 K26.1) G26q Ar26' S22 (by decide) (by decide)) hZ (hw _ (List.mem_of_getElem? (i := 29) rfl)) (hw _ (List.mem_of_getElem? (i := 4) rfl)) (by decide) (by decide)) q27a q27c (g := (mkF m 46 #[.val (.int p1), .val (.int p2), .val (.int p3), .val (.int p4), .val (.int (2 : Int32)), .val (.double (FP.i2d ((p3 &&& (65535 : Int32)) - (32768 : Int32)))), .second, .val (.double (FP.i2d ((p4 &&& (65535 : Int32)) - (32768 : Int32)))), .second, .val (.ref b21), .unset] [(.ref b21)])) rfl (by rw [hml]; rfl) (Steps.refl _) (argsL := []) (rest := []) (lenOf pd_rm0_2 rfl) rfl (by show 2 * 0 + _ ≤ _; exact Nat.le_of_eq rfl) (hb hby at_46) (fun _ _ => ⟨rfl, rfl, (by decide : 2 + 0 ≤ _), (by decide : 6 + 0 ≤ _)⟩)
    dsimp only [Pt.U, Pt.locs, Pt.cells, Pt.slots] at X27 l27 y27 z27 st27 hQ27
    subst l27 y27 z27
    obtain ⟨rfl, N27q, e27⟩ := hQ27
    have N27 := Fr.app N26 N27q
    obtain ⟨cq28, kq28, q28a, q28b, q28c⟩ := isOf hZ e27 A26q
    obtain ⟨_, _, ⟨T28, L28, k28, n28⟩, -, X28, ⟨Lc28, hQ28, l28, y28, z28⟩, st28⟩ := X27.virtualBack hx (y := (⟨"com/example/wellknit/wellknit/LineString", "pointCount", "()I"⟩ : MethodName)) (z := (⟨"com/example/wellknit/wellknit/LineString", "pointCount", "()I"⟩ : MethodName)) hown (mvT hZ (hw _ (List.mem_of_getElem? (i := 30) rfl))) (mvT hZ (hw _ (List.mem_of_getElem? (i := 31) rfl))) (notFace_of_selects (args := #[]) (mvT hZ (hw _ (List.mem_of_getElem? (i := 33) rfl)))) (mvT hZ (hw _ (List.mem_of_getElem? (i := 33) rfl))) (mvT hZ (hw _ (List.mem_of_getElem? (i := 32) rfl))) (by decide) (backOf (W := 0) (rmP l Z a0 hw [] b21 r22 cl22 (4 : Int32) (2 : Int32) T26.heap n0 (Nat.le_trans Z0 K26.1) G26q Ar26' S22 (by decide) (by decide)) hZ (hw _ (List.mem_of_getElem? (i := 34) rfl)) (hw _ (List.mem_of_getElem? (i := 4) rfl)) (by decide) (by decide)) q28a q28c (g := (mkF m 68 #[.val (.int p1), .val (.int p2), .val (.int p3), .val (.int p4), .val (.int (2 : Int32)), .val (.double (FP.i2d ((p3 &&& (65535 : Int32)) - (32768 : Int32)))), .second, .val (.double (FP.i2d ((p4 &&& (65535 : Int32)) - (32768 : Int32)))), .second, .val (.ref b21), .val (.int (0 : Int32))] [(.ref b21)])) rfl (by rw [hml]; rfl) (Steps.refl _) (argsL := []) (rest := []) (lenOf pd_rm0_3 rfl) rfl (by show 2 * 0 + _ ≤ _; exact Nat.le_of_eq rfl) (hb hby at_68) (fun _ _ => ⟨rfl, e27, (by decide : 2 + 0 ≤ _), (by decide : 6 + 0 ≤ _)⟩)
    dsimp only [Pt.U, Pt.locs, Pt.cells, Pt.slots] at X28 l28 y28 z28 st28 hQ28
    subst l28 y28 z28
    obtain ⟨rfl, N28q, e28⟩ := hQ28
    have N28 := Fr.app N27 N28q
    obtain ⟨fs, hr, hrun, hended, hW, hsame⟩ := X28.leave (v := some (.int (1 : Int32))) (fun h => by rw [Bd.returns] at h; cases h)
    refine ⟨_, _, pre20 _ ?_, hrun, hended, _, _, rfl, ?_, ⟨_, rfl⟩, hW, hsame.mono (by decide) (by decide)⟩
    · show Steps p.tables e below (s₁.setTop (mkF m 3 #[.val (.int p1), .val (.int p2), .val (.int p3), .val (.int p4), .unset, .unset, .unset, .unset, .unset, .unset, .unset] [(.int (2 : Int32))])) _
      refine XS.istore X0.here hx rfl (hb hby at_3) rfl (l' := #[.val (.int p1), .val (.int p2), .val (.int p3), .val (.int p4), .val (.int (2 : Int32)), .unset, .unset, .unset, .unset, .unset, .unset]) rfl ?_
      show Steps p.tables e below (s₁.setTop (mkF m 5 #[.val (.int p1), .val (.int p2), .val (.int p3), .val (.int p4), .val (.int (2 : Int32)), .unset, .unset, .unset, .unset, .unset, .unset] [])) _
      refine XS.iloadN X0.here hx rfl (hb hby at_5) rfl ?_
      show Steps p.tables e below (s₁.setTop (mkF m 6 #[.val (.int p1), .val (.int p2), .val (.int p3), .val (.int p4), .val (.int (2 : Int32)), .unset, .unset, .unset, .unset, .unset, .unset] [(.int p3)])) _
      refine X0.ldcInt hx hown (mvT hZ (hw _ (List.mem_of_getElem? (i := 0) rfl))) (g := (mkF m 6 #[.val (.int p1), .val (.int p2), .val (.int p3), .val (.int p4), .val (.int (2 : Int32)), .unset, .unset, .unset, .unset, .unset, .unset] [(.int p3)])) rfl (hb hby at_6) _ ?_
      show Steps p.tables e below (s₁.setTop (mkF m 8 #[.val (.int p1), .val (.int p2), .val (.int p3), .val (.int p4), .val (.int (2 : Int32)), .unset, .unset, .unset, .unset, .unset, .unset] [(.int (65535 : Int32)), (.int p3)])) _
      refine XS.iand X0.here hx rfl (hb hby at_8) rfl ?_
      show Steps p.tables e below (s₁.setTop (mkF m 9 #[.val (.int p1), .val (.int p2), .val (.int p3), .val (.int p4), .val (.int (2 : Int32)), .unset, .unset, .unset, .unset, .unset, .unset] [(.int (p3 &&& (65535 : Int32)))])) _
      refine X0.ldcInt hx hown (mvT hZ (hw _ (List.mem_of_getElem? (i := 1) rfl))) (g := (mkF m 9 #[.val (.int p1), .val (.int p2), .val (.int p3), .val (.int p4), .val (.int (2 : Int32)), .unset, .unset, .unset, .unset, .unset, .unset] [(.int (p3 &&& (65535 : Int32)))])) rfl (hb hby at_9) _ ?_
      show Steps p.tables e below (s₁.setTop (mkF m 11 #[.val (.int p1), .val (.int p2), .val (.int p3), .val (.int p4), .val (.int (2 : Int32)), .unset, .unset, .unset, .unset, .unset, .unset] [(.int (32768 : Int32)), (.int (p3 &&& (65535 : Int32)))])) _
      refine XS.isub X0.here hx rfl (hb hby at_11) rfl ?_
      show Steps p.tables e below (s₁.setTop (mkF m 12 #[.val (.int p1), .val (.int p2), .val (.int p3), .val (.int p4), .val (.int (2 : Int32)), .unset, .unset, .unset, .unset, .unset, .unset] [(.int ((p3 &&& (65535 : Int32)) - (32768 : Int32)))])) _
      refine XS.i2dS X0.here hx rfl (hb hby at_12) rfl (v := (FP.i2d ((p3 &&& (65535 : Int32)) - (32768 : Int32)))) rfl ?_
      show Steps p.tables e below (s₁.setTop (mkF m 13 #[.val (.int p1), .val (.int p2), .val (.int p3), .val (.int p4), .val (.int (2 : Int32)), .unset, .unset, .unset, .unset, .unset, .unset] [(.double (FP.i2d ((p3 &&& (65535 : Int32)) - (32768 : Int32))))])) _
      refine XS.dstore X0.here hx rfl (hb hby at_13) rfl (l' := #[.val (.int p1), .val (.int p2), .val (.int p3), .val (.int p4), .val (.int (2 : Int32)), .val (.double (FP.i2d ((p3 &&& (65535 : Int32)) - (32768 : Int32)))), .second, .unset, .unset, .unset, .unset]) rfl ?_
      show Steps p.tables e below (s₁.setTop (mkF m 15 #[.val (.int p1), .val (.int p2), .val (.int p3), .val (.int p4), .val (.int (2 : Int32)), .val (.double (FP.i2d ((p3 &&& (65535 : Int32)) - (32768 : Int32)))), .second, .unset, .unset, .unset, .unset] [])) _
      refine XS.iloadN X0.here hx rfl (hb hby at_15) rfl ?_
      show Steps p.tables e below (s₁.setTop (mkF m 16 #[.val (.int p1), .val (.int p2), .val (.int p3), .val (.int p4), .val (.int (2 : Int32)), .val (.double (FP.i2d ((p3 &&& (65535 : Int32)) - (32768 : Int32)))), .second, .unset, .unset, .unset, .unset] [(.int p4)])) _
      refine X0.ldcInt hx hown (mvT hZ (hw _ (List.mem_of_getElem? (i := 0) rfl))) (g := (mkF m 16 #[.val (.int p1), .val (.int p2), .val (.int p3), .val (.int p4), .val (.int (2 : Int32)), .val (.double (FP.i2d ((p3 &&& (65535 : Int32)) - (32768 : Int32)))), .second, .unset, .unset, .unset, .unset] [(.int p4)])) rfl (hb hby at_16) _ ?_
      show Steps p.tables e below (s₁.setTop (mkF m 18 #[.val (.int p1), .val (.int p2), .val (.int p3), .val (.int p4), .val (.int (2 : Int32)), .val (.double (FP.i2d ((p3 &&& (65535 : Int32)) - (32768 : Int32)))), .second, .unset, .unset, .unset, .unset] [(.int (65535 : Int32)), (.int p4)])) _
      refine XS.iand X0.here hx rfl (hb hby at_18) rfl ?_
      show Steps p.tables e below (s₁.setTop (mkF m 19 #[.val (.int p1), .val (.int p2), .val (.int p3), .val (.int p4), .val (.int (2 : Int32)), .val (.double (FP.i2d ((p3 &&& (65535 : Int32)) - (32768 : Int32)))), .second, .unset, .unset, .unset, .unset] [(.int (p4 &&& (65535 : Int32)))])) _
      refine X0.ldcInt hx hown (mvT hZ (hw _ (List.mem_of_getElem? (i := 1) rfl))) (g := (mkF m 19 #[.val (.int p1), .val (.int p2), .val (.int p3), .val (.int p4), .val (.int (2 : Int32)), .val (.double (FP.i2d ((p3 &&& (65535 : Int32)) - (32768 : Int32)))), .second, .unset, .unset, .unset, .unset] [(.int (p4 &&& (65535 : Int32)))])) rfl (hb hby at_19) _ ?_
      show Steps p.tables e below (s₁.setTop (mkF m 21 #[.val (.int p1), .val (.int p2), .val (.int p3), .val (.int p4), .val (.int (2 : Int32)), .val (.double (FP.i2d ((p3 &&& (65535 : Int32)) - (32768 : Int32)))), .second, .unset, .unset, .unset, .unset] [(.int (32768 : Int32)), (.int (p4 &&& (65535 : Int32)))])) _
      refine XS.isub X0.here hx rfl (hb hby at_21) rfl ?_
      show Steps p.tables e below (s₁.setTop (mkF m 22 #[.val (.int p1), .val (.int p2), .val (.int p3), .val (.int p4), .val (.int (2 : Int32)), .val (.double (FP.i2d ((p3 &&& (65535 : Int32)) - (32768 : Int32)))), .second, .unset, .unset, .unset, .unset] [(.int ((p4 &&& (65535 : Int32)) - (32768 : Int32)))])) _
      refine XS.i2dS X0.here hx rfl (hb hby at_22) rfl (v := (FP.i2d ((p4 &&& (65535 : Int32)) - (32768 : Int32)))) rfl ?_
      show Steps p.tables e below (s₁.setTop (mkF m 23 #[.val (.int p1), .val (.int p2), .val (.int p3), .val (.int p4), .val (.int (2 : Int32)), .val (.double (FP.i2d ((p3 &&& (65535 : Int32)) - (32768 : Int32)))), .second, .unset, .unset, .unset, .unset] [(.double (FP.i2d ((p4 &&& (65535 : Int32)) - (32768 : Int32))))])) _
      refine XS.dstore X0.here hx rfl (hb hby at_23) rfl (l' := #[.val (.int p1), .val (.int p2), .val (.int p3), .val (.int p4), .val (.int (2 : Int32)), .val (.double (FP.i2d ((p3 &&& (65535 : Int32)) - (32768 : Int32)))), .second, .val (.double (FP.i2d ((p4 &&& (65535 : Int32)) - (32768 : Int32)))), .second, .unset, .unset]) rfl ?_
      show Steps p.tables e below (s₁.setTop (mkF m 25 #[.val (.int p1), .val (.int p2), .val (.int p3), .val (.int p4), .val (.int (2 : Int32)), .val (.double (FP.i2d ((p3 &&& (65535 : Int32)) - (32768 : Int32)))), .second, .val (.double (FP.i2d ((p4 &&& (65535 : Int32)) - (32768 : Int32)))), .second, .unset, .unset] [])) _
      refine st21 _ ?_
      show Steps p.tables e below (T21.setTop (mkF m 28 #[.val (.int p1), .val (.int p2), .val (.int p3), .val (.int p4), .val (.int (2 : Int32)), .val (.double (FP.i2d ((p3 &&& (65535 : Int32)) - (32768 : Int32)))), .second, .val (.double (FP.i2d ((p4 &&& (65535 : Int32)) - (32768 : Int32)))), .second, .unset, .unset] [(.ref b21)])) _
      refine XS.dup X21.here hx rfl (hb hby at_28) rfl rfl ?_
      show Steps p.tables e below (T21.setTop (mkF m 29 #[.val (.int p1), .val (.int p2), .val (.int p3), .val (.int p4), .val (.int (2 : Int32)), .val (.double (FP.i2d ((p3 &&& (65535 : Int32)) - (32768 : Int32)))), .second, .val (.double (FP.i2d ((p4 &&& (65535 : Int32)) - (32768 : Int32)))), .second, .unset, .unset] [(.ref b21), (.ref b21)])) _
      refine XS.iloadN X21.here hx rfl (hb hby at_29) rfl ?_
      show Steps p.tables e below (T21.setTop (mkF m 30 #[.val (.int p1), .val (.int p2), .val (.int p3), .val (.int p4), .val (.int (2 : Int32)), .val (.double (FP.i2d ((p3 &&& (65535 : Int32)) - (32768 : Int32)))), .second, .val (.double (FP.i2d ((p4 &&& (65535 : Int32)) - (32768 : Int32)))), .second, .unset, .unset] [(.int p1), (.ref b21), (.ref b21)])) _
      refine XS.iload X21.here hx rfl (hb hby at_30) rfl ?_
      show Steps p.tables e below (T21.setTop (mkF m 32 #[.val (.int p1), .val (.int p2), .val (.int p3), .val (.int p4), .val (.int (2 : Int32)), .val (.double (FP.i2d ((p3 &&& (65535 : Int32)) - (32768 : Int32)))), .second, .val (.double (FP.i2d ((p4 &&& (65535 : Int32)) - (32768 : Int32)))), .second, .unset, .unset] [(.int (2 : Int32)), (.int p1), (.ref b21), (.ref b21)])) _
      refine XS.dload X21.here hx rfl (hb hby at_32) rfl ?_
      show Steps p.tables e below (T21.setTop (mkF m 34 #[.val (.int p1), .val (.int p2), .val (.int p3), .val (.int p4), .val (.int (2 : Int32)), .val (.double (FP.i2d ((p3 &&& (65535 : Int32)) - (32768 : Int32)))), .second, .val (.double (FP.i2d ((p4 &&& (65535 : Int32)) - (32768 : Int32)))), .second, .unset, .unset] [(.double (FP.i2d ((p3 &&& (65535 : Int32)) - (32768 : Int32)))), (.int (2 : Int32)), (.int p1), (.ref b21), (.ref b21)])) _
      refine XS.dload X21.here hx rfl (hb hby at_34) rfl ?_
      show Steps p.tables e below (T21.setTop (mkF m 36 #[.val (.int p1), .val (.int p2), .val (.int p3), .val (.int p4), .val (.int (2 : Int32)), .val (.double (FP.i2d ((p3 &&& (65535 : Int32)) - (32768 : Int32)))), .second, .val (.double (FP.i2d ((p4 &&& (65535 : Int32)) - (32768 : Int32)))), .second, .unset, .unset] [(.double (FP.i2d ((p4 &&& (65535 : Int32)) - (32768 : Int32)))), (.double (FP.i2d ((p3 &&& (65535 : Int32)) - (32768 : Int32)))), (.int (2 : Int32)), (.int p1), (.ref b21), (.ref b21)])) _
      refine st22 _ ?_
      show Steps p.tables e below (T22.setTop (mkF m 39 #[.val (.int p1), .val (.int p2), .val (.int p3), .val (.int p4), .val (.int (2 : Int32)), .val (.double (FP.i2d ((p3 &&& (65535 : Int32)) - (32768 : Int32)))), .second, .val (.double (FP.i2d ((p4 &&& (65535 : Int32)) - (32768 : Int32)))), .second, .unset, .unset] [(.ref r22), (.int p1), (.ref b21), (.ref b21)])) _
      refine st26.trans ?_
      show Steps p.tables e below (T26.setTop (mkF m 42 #[.val (.int p1), .val (.int p2), .val (.int p3), .val (.int p4), .val (.int (2 : Int32)), .val (.double (FP.i2d ((p3 &&& (65535 : Int32)) - (32768 : Int32)))), .second, .val (.double (FP.i2d ((p4 &&& (65535 : Int32)) - (32768 : Int32)))), .second, .unset, .unset] [(.ref b21)])) _
      refine XS.astore X26.here hx rfl (hb hby at_42) rfl rfl (l' := #[.val (.int p1), .val (.int p2), .val (.int p3), .val (.int p4), .val (.int (2 : Int32)), .val (.double (FP.i2d ((p3 &&& (65535 : Int32)) - (32768 : Int32)))), .second, .val (.double (FP.i2d ((p4 &&& (65535 : Int32)) - (32768 : Int32)))), .second, .val (.ref b21), .unset]) rfl ?_
      show Steps p.tables e below (T26.setTop (mkF m 44 #[.val (.int p1), .val (.int p2), .val (.int p3), .val (.int p4), .val (.int (2 : Int32)), .val (.double (FP.i2d ((p3 &&& (65535 : Int32)) - (32768 : Int32)))), .second, .val (.double (FP.i2d ((p4 &&& (65535 : Int32)) - (32768 : Int32)))), .second, .val (.ref b21), .unset] [])) _
      refine XS.aload X26.here hx rfl (hb hby at_44) rfl rfl ?_
      show Steps p.tables e below (T26.setTop (mkF m 46 #[.val (.int p1), .val (.int p2), .val (.int p3), .val (.int p4), .val (.int (2 : Int32)), .val (.double (FP.i2d ((p3 &&& (65535 : Int32)) - (32768 : Int32)))), .second, .val (.double (FP.i2d ((p4 &&& (65535 : Int32)) - (32768 : Int32)))), .second, .val (.ref b21), .unset] [(.ref b21)])) _
      refine st27.trans ?_
      show Steps p.tables e below (T27.setTop (mkF m 49 #[.val (.int p1), .val (.int p2), .val (.int p3), .val (.int p4), .val (.int (2 : Int32)), .val (.double (FP.i2d ((p3 &&& (65535 : Int32)) - (32768 : Int32)))), .second, .val (.double (FP.i2d ((p4 &&& (65535 : Int32)) - (32768 : Int32)))), .second, .val (.ref b21), .unset] [(.int (0 : Int32))])) _
      refine XS.istore X27.here hx rfl (hb hby at_49) rfl (l' := #[.val (.int p1), .val (.int p2), .val (.int p3), .val (.int p4), .val (.int (2 : Int32)), .val (.double (FP.i2d ((p3 &&& (65535 : Int32)) - (32768 : Int32)))), .second, .val (.double (FP.i2d ((p4 &&& (65535 : Int32)) - (32768 : Int32)))), .second, .val (.ref b21), .val (.int (0 : Int32))]) rfl ?_
      show Steps p.tables e below (T27.setTop (mkF m 51 #[.val (.int p1), .val (.int p2), .val (.int p3), .val (.int p4), .val (.int (2 : Int32)), .val (.double (FP.i2d ((p3 &&& (65535 : Int32)) - (32768 : Int32)))), .second, .val (.double (FP.i2d ((p4 &&& (65535 : Int32)) - (32768 : Int32)))), .second, .val (.ref b21), .val (.int (0 : Int32))] [])) _
      refine XS.iload X27.here hx rfl (hb hby at_51) rfl ?_
      show Steps p.tables e below (T27.setTop (mkF m 53 #[.val (.int p1), .val (.int p2), .val (.int p3), .val (.int p4), .val (.int (2 : Int32)), .val (.double (FP.i2d ((p3 &&& (65535 : Int32)) - (32768 : Int32)))), .second, .val (.double (FP.i2d ((p4 &&& (65535 : Int32)) - (32768 : Int32)))), .second, .val (.ref b21), .val (.int (0 : Int32))] [(.int (0 : Int32))])) _
      refine XS.iload X27.here hx rfl (hb hby at_53) rfl ?_
      show Steps p.tables e below (T27.setTop (mkF m 55 #[.val (.int p1), .val (.int p2), .val (.int p3), .val (.int p4), .val (.int (2 : Int32)), .val (.double (FP.i2d ((p3 &&& (65535 : Int32)) - (32768 : Int32)))), .second, .val (.double (FP.i2d ((p4 &&& (65535 : Int32)) - (32768 : Int32)))), .second, .val (.ref b21), .val (.int (0 : Int32))] [(.int (2 : Int32)), (.int (0 : Int32))])) _
      refine XS.ifYes X27.here hx rfl (pc0 := 55) (pc' := 62) rfl (hb hby at_55) rfl ((if0 _ _).trans (feq (by decide : ¬ ((2 : Int32) = (0 : Int32)))).2) (by decide) (by decide) ?_
      show Steps p.tables e below (T27.setTop (mkF m 62 #[.val (.int p1), .val (.int p2), .val (.int p3), .val (.int p4), .val (.int (2 : Int32)), .val (.double (FP.i2d ((p3 &&& (65535 : Int32)) - (32768 : Int32)))), .second, .val (.double (FP.i2d ((p4 &&& (65535 : Int32)) - (32768 : Int32)))), .second, .val (.ref b21), .val (.int (0 : Int32))] [(.int (0 : Int32))])) _
      refine XS.iconst X27.here hx rfl (hb hby at_62) ?_
      show Steps p.tables e below (T27.setTop (mkF m 63 #[.val (.int p1), .val (.int p2), .val (.int p3), .val (.int p4), .val (.int (2 : Int32)), .val (.double (FP.i2d ((p3 &&& (65535 : Int32)) - (32768 : Int32)))), .second, .val (.double (FP.i2d ((p4 &&& (65535 : Int32)) - (32768 : Int32)))), .second, .val (.ref b21), .val (.int (0 : Int32))] [(.int (0 : Int32)), (.int (0 : Int32))])) _
      refine XS.icmpNo X27.here hx rfl (hb hby at_63) rfl (teq (rfl : (0 : Int32) = (0 : Int32))).2 ?_
      show Steps p.tables e below (T27.setTop (mkF m 66 #[.val (.int p1), .val (.int p2), .val (.int p3), .val (.int p4), .val (.int (2 : Int32)), .val (.double (FP.i2d ((p3 &&& (65535 : Int32)) - (32768 : Int32)))), .second, .val (.double (FP.i2d ((p4 &&& (65535 : Int32)) - (32768 : Int32)))), .second, .val (.ref b21), .val (.int (0 : Int32))] [])) _
      refine XS.aload X27.here hx rfl (hb hby at_66) rfl rfl ?_
      show Steps p.tables e below (T27.setTop (mkF m 68 #[.val (.int p1), .val (.int p2), .val (.int p3), .val (.int p4), .val (.int (2 : Int32)), .val (.double (FP.i2d ((p3 &&& (65535 : Int32)) - (32768 : Int32)))), .second, .val (.double (FP.i2d ((p4 &&& (65535 : Int32)) - (32768 : Int32)))), .second, .val (.ref b21), .val (.int (0 : Int32))] [(.ref b21)])) _
      refine st28.trans ?_
      show Steps p.tables e below (T28.setTop (mkF m 71 #[.val (.int p1), .val (.int p2), .val (.int p3), .val (.int p4), .val (.int (2 : Int32)), .val (.double (FP.i2d ((p3 &&& (65535 : Int32)) - (32768 : Int32)))), .second, .val (.double (FP.i2d ((p4 &&& (65535 : Int32)) - (32768 : Int32)))), .second, .val (.ref b21), .val (.int (0 : Int32))] [(.int (2 : Int32))])) _
      refine XS.iload X28.here hx rfl (hb hby at_71) rfl ?_
      show Steps p.tables e below (T28.setTop (mkF m 73 #[.val (.int p1), .val (.int p2), .val (.int p3), .val (.int p4), .val (.int (2 : Int32)), .val (.double (FP.i2d ((p3 &&& (65535 : Int32)) - (32768 : Int32)))), .second, .val (.double (FP.i2d ((p4 &&& (65535 : Int32)) - (32768 : Int32)))), .second, .val (.ref b21), .val (.int (0 : Int32))] [(.int (2 : Int32)), (.int (2 : Int32))])) _
      refine XS.icmpNo X28.here hx rfl (hb hby at_73) rfl (teq (rfl : (2 : Int32) = (2 : Int32))).2 ?_
      show Steps p.tables e below (T28.setTop (mkF m 76 #[.val (.int p1), .val (.int p2), .val (.int p3), .val (.int p4), .val (.int (2 : Int32)), .val (.double (FP.i2d ((p3 &&& (65535 : Int32)) - (32768 : Int32)))), .second, .val (.double (FP.i2d ((p4 &&& (65535 : Int32)) - (32768 : Int32)))), .second, .val (.ref b21), .val (.int (0 : Int32))] [])) _
      refine XS.iconst X28.here hx rfl (hb hby at_76) ?_
      show Steps p.tables e below (T28.setTop (mkF m 77 #[.val (.int p1), .val (.int p2), .val (.int p3), .val (.int p4), .val (.int (2 : Int32)), .val (.double (FP.i2d ((p3 &&& (65535 : Int32)) - (32768 : Int32)))), .second, .val (.double (FP.i2d ((p4 &&& (65535 : Int32)) - (32768 : Int32)))), .second, .val (.ref b21), .val (.int (0 : Int32))] [(.int (1 : Int32))])) _
      refine XS.goto X28.here hx rfl (pc0 := 77) (pc' := 81) rfl (hb hby at_77) (by decide) (by decide) ?_
      show Steps p.tables e below (T28.setTop (mkF m 81 #[.val (.int p1), .val (.int p2), .val (.int p3), .val (.int p4), .val (.int (2 : Int32)), .val (.double (FP.i2d ((p3 &&& (65535 : Int32)) - (32768 : Int32)))), .second, .val (.double (FP.i2d ((p4 &&& (65535 : Int32)) - (32768 : Int32)))), .second, .val (.ref b21), .val (.int (0 : Int32))] [(.int (1 : Int32))])) _
      exact retN X28 hx (t := .boolean) Bd.returns (by simp) (hb hby at_81) hr
    · show Q_rm0 Z p1 p2 p3 p4 h0 n0 _ T28.heap _
      rw [e28]
      exact ⟨rfl, N28⟩
  · have pre29 : ∀ t, Steps p.tables e below (s₁.setTop (mkF m 3 #[.val (.int p1), .val (.int p2), .val (.int p3), .val (.int p4), .unset, .unset, .unset, .unset, .unset, .unset, .unset] [(.int (3 : Int32))])) t → Steps p.tables e below (s₁.setTop (entryFrame m #[(.int p1), (.int p2), (.int p3), (.int p4)] maxLocals)) t := fun t k => pre1 t (by rw [hk]; exact k)
    obtain ⟨T30, h30, X30, e30, E30, A30, D30, -, st30⟩ := newO X0 hx hZ hown (hw _ (List.mem_of_getElem? (i := 2) rfl)) (hw _ (List.mem_of_getElem? (i := 3) rfl)) (hw _ (List.mem_of_getElem? (i := 4) rfl)) e0 (g := (mkF m 25 #[.val (.int p1), .val (.int p2), .val (.int p3), .val (.int p4), .val (.int (3 : Int32)), .val (.double (FP.i2d ((p3 &&& (65535 : Int32)) - (32768 : Int32)))), .second, .val (.double (FP.i2d ((p4 &&& (65535 : Int32)) - (32768 : Int32)))), .second, .unset, .unset] [])) rfl (hb hby at_25) (by decide) (by decide)
    obtain ⟨b30, g30⟩ : ∃ z, z = h0.size := ⟨_, rfl⟩
    rw [← g30] at A30 D30 st30
    have g_b30 : n0 ≤ b30 := Nat.le_trans Z0 (Nat.le_of_eq g30.symm)
    have sz_b30 : h0.size ≤ b30 := Nat.le_trans ((Keep.refl h0 [])).1 (Nat.le_of_eq g30.symm)
    have K30 : Keep h0 h30 [] := ((Keep.refl h0 [])).ext E30
    have F30_srid : Fld Z h30 b30 "com/example/wellknit/wellknit/Geometry" "srid" "I" (.int (0 : Int32)) := D30 (Or.inr (hw _ (List.mem_of_getElem? (i := 22) rfl))) (ty := .int) (by decide)
    have F30_coordinates : Fld Z h30 b30 "com/example/wellknit/wellknit/LineString" "coordinates" "[D" .null := D30 (Or.inr (hw _ (List.mem_of_getElem? (i := 24) rfl))) (ty := (.array .double)) (by decide)
    obtain ⟨_, _, ⟨T31, L31, k31, n31⟩, -, X31, ⟨Lc31, hQ31, l31, y31, z31⟩, st31⟩ := Jvm.LawKit.callS X30 hx (y := (⟨"com/example/wellknit/wellknit/LineStringIsEmptyPinLaw", "coords", "(IDD)[D"⟩ : MethodName)) hown (mvT hZ (hw _ (List.mem_of_getElem? (i := 5) rfl))) (mvT hZ (hw _ (List.mem_of_getElem? (i := 6) rfl))) (mvT hZ (hw _ (List.mem_of_getElem? (i := 7) rfl))) (mvT hZ (hw _ (List.mem_of_getElem? (i := 8) rfl))) (by decide) (backOf (W := 3) (rmC3 l Z a0 hw [] (FP.i2d ((p3 &&& (65535 : Int32)) - (32768 : Int32))) (FP.i2d ((p4 &&& (65535 : Int32)) - (32768 : Int32))) h30 n0 (Nat.le_trans Z0 K30.1)) hZ (hw _ (List.mem_of_getElem? (i := 8) rfl)) (hw _ (List.mem_of_getElem? (i := 7) rfl)) (by decide) (by decide)) (g := (mkF m 36 #[.val (.int p1), .val (.int p2), .val (.int p3), .val (.int p4), .val (.int (3 : Int32)), .val (.double (FP.i2d ((p3 &&& (65535 : Int32)) - (32768 : Int32)))), .second, .val (.double (FP.i2d ((p4 &&& (65535 : Int32)) - (32768 : Int32)))), .second, .unset, .unset] [(.double (FP.i2d ((p4 &&& (65535 : Int32)) - (32768 : Int32)))), (.double (FP.i2d ((p3 &&& (65535 : Int32)) - (32768 : Int32)))), (.int (3 : Int32)), (.int p1), (.ref b30), (.ref b30)])) rfl (by rw [hml]; rfl) (argsL := [(.int (3 : Int32)), (.double (FP.i2d ((p3 &&& (65535 : Int32)) - (32768 : Int32)))), (.double (FP.i2d ((p4 &&& (65535 : Int32)) - (32768 : Int32))))]) (rest := [(.int p1), (.ref b30), (.ref b30)]) (lenOf pd_rm0_0 rfl) rfl (by show 2 * 0 + _ ≤ _; exact Nat.le_of_eq rfl) (hb hby at_36) (fun _ _ => ⟨rfl, e30, (by decide : 1 + 1 ≤ _), (by decide : 2 + 6 ≤ _)⟩)
    dsimp only [Pt.U, Pt.locs, Pt.cells, Pt.slots] at X31 l31 y31 z31 st31 hQ31
    subst l31 y31 z31
    obtain ⟨r31, rfl, N31q, E31q, s31q, cl31, Ar31, S31⟩ := hQ31
    have N31 := Fr.app N0 N31q
    have ne_b30_r31 : b30 ≠ r31 := Nat.ne_of_lt (Nat.lt_of_lt_of_le A30.lt s31q)
    have K31 : Keep h0 T31.heap [] := (K30).ext E31q
    have f32 := (Exa.ext E31q A30)
    have f33 := (Fld.ext E31q F30_srid)
    have f34 := (Fld.ext E31q F30_coordinates)
    obtain ⟨_, _, ⟨T35, L35, k35, n35⟩, -, X35, ⟨Lc35, hQ35, l35, y35, z35⟩, st35⟩ := X31.specialBack hx (y := (⟨"com/example/wellknit/wellknit/LineString", "<init>", "(I[D)V"⟩ : MethodName)) rfl hown (mvT hZ (hw _ (List.mem_of_getElem? (i := 10) rfl))) (mvT hZ (hw _ (List.mem_of_getElem? (i := 11) rfl))) (mvT hZ (hw _ (List.mem_of_getElem? (i := 12) rfl))) (by decide) (backOf (W := 1) (rmL l Z a0 hw [] b30 p1 r31 T31.heap n0 (Nat.le_trans Z0 K31.1) f32 f33 f34 g_b30) hZ (hw _ (List.mem_of_getElem? (i := 12) rfl)) (hw _ (List.mem_of_getElem? (i := 4) rfl)) (by decide) (by decide)) (g := (mkF m 39 #[.val (.int p1), .val (.int p2), .val (.int p3), .val (.int p4), .val (.int (3 : Int32)), .val (.double (FP.i2d ((p3 &&& (65535 : Int32)) - (32768 : Int32)))), .second, .val (.double (FP.i2d ((p4 &&& (65535 : Int32)) - (32768 : Int32)))), .second, .unset, .unset] [(.ref r31), (.int p1), (.ref b30), (.ref b30)])) rfl (by rw [hml]; rfl) (Steps.refl _) (a := b30) (argsL := [(.int p1), (.ref r31)]) (rest := [(.ref b30)]) (lenOf pd_rm0_1 rfl) rfl (by show 2 * 0 + _ ≤ _; exact Nat.le_of_eq rfl) (hb hby at_39) (fun _ _ => ⟨rfl, rfl, (by decide : 2 + 0 ≤ _), (by decide : 8 + 0 ≤ _)⟩)
    dsimp only [Pt.U, Pt.locs, Pt.cells, Pt.slots] at X35 l35 y35 z35 st35 hQ35
    subst l35 y35 z35
    obtain ⟨rfl, N35q, K35q, A35q, G35q⟩ := hQ35
    have N35 := Fr.app N31 N35q
    have K35 : Keep h0 T35.heap [] := (K31).trans K35q (allS (Or.inr sz_b30) all0)
    have Ar35' : Arr Z T35.heap r31 cl31 .double := ⟨K35q.2.1 _ _ Ar31.1 (ninS (Ne.symm ne_b30_r31) nin0), Ar31.2⟩
    obtain ⟨cq36, kq36, q36a, q36b, q36c⟩ := isOf hZ rfl A35q
    obtain ⟨_, _, ⟨T36, L36, k36, n36⟩, -, X36, ⟨Lc36, hQ36, l36, y36, z36⟩, st36⟩ := X35.virtualBack hx (y := (⟨"com/example/wellknit/wellknit/LineString", "isEmpty", "()Z"⟩ : MethodName)) (z := (⟨"com/example/wellknit/wellknit/LineString", "isEmpty", "()Z"⟩ : MethodName)) hown (mvT hZ (hw _ (List.mem_of_getElem? (i := 25) rfl))) (mvT hZ (hw _ (List.mem_of_getElem? (i := 26) rfl))) (notFace_of_selects (args := #[]) (mvT hZ (hw _ (List.mem_of_getElem? (i := 28) rfl)))) (mvT hZ (hw _ (List.mem_of_getElem? (i := 28) rfl))) (mvT hZ (hw _ (List.mem_of_getElem? (i := 27) rfl))) (by decide) (backOf (W := 0) (rmE l Z a0 hw [] b30 r31 cl31 (6 : Int32) (0 : Int32) T35.heap n0 (Nat.le_trans Z0 K35.1) G35q Ar35' S31 (by decide) (by decide)) hZ (hw _ (List.mem_of_getElem? (i := 29) rfl)) (hw _ (List.mem_of_getElem? (i := 4) rfl)) (by decide) (by decide)) q36a q36c (g := (mkF m 46 #[.val (.int p1), .val (.int p2), .val (.int p3), .val (.int p4), .val (.int (3 : Int32)), .val (.double (FP.i2d ((p3 &&& (65535 : Int32)) - (32768 : Int32)))), .second, .val (.double (FP.i2d ((p4 &&& (65535 : Int32)) - (32768 : Int32)))), .second, .val (.ref b30), .unset] [(.ref b30)])) rfl (by rw [hml]; rfl) (Steps.refl _) (argsL := []) (rest := []) (lenOf pd_rm0_2 rfl) rfl (by show 2 * 0 + _ ≤ _; exact Nat.le_of_eq rfl) (hb hby at_46) (fun _ _ => ⟨rfl, rfl, (by decide : 2 + 0 ≤ _), (by decide : 8 + 0 ≤ _)⟩)
    dsimp only [Pt.U, Pt.locs, Pt.cells, Pt.slots] at X36 l36 y36 z36 st36 hQ36
    subst l36 y36 z36
    obtain ⟨rfl, N36q, e36⟩ := hQ36
    have N36 := Fr.app N35 N36q
    obtain ⟨cq37, kq37, q37a, q37b, q37c⟩ := isOf hZ e36 A35q
    obtain ⟨_, _, ⟨T37, L37, k37, n37⟩, -, X37, ⟨Lc37, hQ37, l37, y37, z37⟩, st37⟩ := X36.virtualBack hx (y := (⟨"com/example/wellknit/wellknit/LineString", "pointCount", "()I"⟩ : MethodName)) (z := (⟨"com/example/wellknit/wellknit/LineString", "pointCount", "()I"⟩ : MethodName)) hown (mvT hZ (hw _ (List.mem_of_getElem? (i := 30) rfl))) (mvT hZ (hw _ (List.mem_of_getElem? (i := 31) rfl))) (notFace_of_selects (args := #[]) (mvT hZ (hw _ (List.mem_of_getElem? (i := 33) rfl)))) (mvT hZ (hw _ (List.mem_of_getElem? (i := 33) rfl))) (mvT hZ (hw _ (List.mem_of_getElem? (i := 32) rfl))) (by decide) (backOf (W := 0) (rmP l Z a0 hw [] b30 r31 cl31 (6 : Int32) (3 : Int32) T35.heap n0 (Nat.le_trans Z0 K35.1) G35q Ar35' S31 (by decide) (by decide)) hZ (hw _ (List.mem_of_getElem? (i := 34) rfl)) (hw _ (List.mem_of_getElem? (i := 4) rfl)) (by decide) (by decide)) q37a q37c (g := (mkF m 68 #[.val (.int p1), .val (.int p2), .val (.int p3), .val (.int p4), .val (.int (3 : Int32)), .val (.double (FP.i2d ((p3 &&& (65535 : Int32)) - (32768 : Int32)))), .second, .val (.double (FP.i2d ((p4 &&& (65535 : Int32)) - (32768 : Int32)))), .second, .val (.ref b30), .val (.int (0 : Int32))] [(.ref b30)])) rfl (by rw [hml]; rfl) (Steps.refl _) (argsL := []) (rest := []) (lenOf pd_rm0_3 rfl) rfl (by show 2 * 0 + _ ≤ _; exact Nat.le_of_eq rfl) (hb hby at_68) (fun _ _ => ⟨rfl, e36, (by decide : 2 + 0 ≤ _), (by decide : 8 + 0 ≤ _)⟩)
    dsimp only [Pt.U, Pt.locs, Pt.cells, Pt.slots] at X37 l37 y37 z37 st37 hQ37
    subst l37 y37 z37
    obtain ⟨rfl, N37q, e37⟩ := hQ37
    have N37 := Fr.app N36 N37q
    obtain ⟨fs, hr, hrun, hended, hW, hsame⟩ := X37.leave (v := some (.int (1 : Int32))) (fun h => by rw [Bd.returns] at h; cases h)
    refine ⟨_, _, pre29 _ ?_, hrun, hended, _, _, rfl, ?_, ⟨_, rfl⟩, hW, hsame.mono (by decide) (by decide)⟩
    · show Steps p.tables e below (s₁.setTop (mkF m 3 #[.val (.int p1), .val (.int p2), .val (.int p3), .val (.int p4), .unset, .unset, .unset, .unset, .unset, .unset, .unset] [(.int (3 : Int32))])) _
      refine XS.istore X0.here hx rfl (hb hby at_3) rfl (l' := #[.val (.int p1), .val (.int p2), .val (.int p3), .val (.int p4), .val (.int (3 : Int32)), .unset, .unset, .unset, .unset, .unset, .unset]) rfl ?_
      show Steps p.tables e below (s₁.setTop (mkF m 5 #[.val (.int p1), .val (.int p2), .val (.int p3), .val (.int p4), .val (.int (3 : Int32)), .unset, .unset, .unset, .unset, .unset, .unset] [])) _
      refine XS.iloadN X0.here hx rfl (hb hby at_5) rfl ?_
      show Steps p.tables e below (s₁.setTop (mkF m 6 #[.val (.int p1), .val (.int p2), .val (.int p3), .val (.int p4), .val (.int (3 : Int32)), .unset, .unset, .unset, .unset, .unset, .unset] [(.int p3)])) _
      refine X0.ldcInt hx hown (mvT hZ (hw _ (List.mem_of_getElem? (i := 0) rfl))) (g := (mkF m 6 #[.val (.int p1), .val (.int p2), .val (.int p3), .val (.int p4), .val (.int (3 : Int32)), .unset, .unset, .unset, .unset, .unset, .unset] [(.int p3)])) rfl (hb hby at_6) _ ?_
      show Steps p.tables e below (s₁.setTop (mkF m 8 #[.val (.int p1), .val (.int p2), .val (.int p3), .val (.int p4), .val (.int (3 : Int32)), .unset, .unset, .unset, .unset, .unset, .unset] [(.int (65535 : Int32)), (.int p3)])) _
      refine XS.iand X0.here hx rfl (hb hby at_8) rfl ?_
      show Steps p.tables e below (s₁.setTop (mkF m 9 #[.val (.int p1), .val (.int p2), .val (.int p3), .val (.int p4), .val (.int (3 : Int32)), .unset, .unset, .unset, .unset, .unset, .unset] [(.int (p3 &&& (65535 : Int32)))])) _
      refine X0.ldcInt hx hown (mvT hZ (hw _ (List.mem_of_getElem? (i := 1) rfl))) (g := (mkF m 9 #[.val (.int p1), .val (.int p2), .val (.int p3), .val (.int p4), .val (.int (3 : Int32)), .unset, .unset, .unset, .unset, .unset, .unset] [(.int (p3 &&& (65535 : Int32)))])) rfl (hb hby at_9) _ ?_
      show Steps p.tables e below (s₁.setTop (mkF m 11 #[.val (.int p1), .val (.int p2), .val (.int p3), .val (.int p4), .val (.int (3 : Int32)), .unset, .unset, .unset, .unset, .unset, .unset] [(.int (32768 : Int32)), (.int (p3 &&& (65535 : Int32)))])) _
      refine XS.isub X0.here hx rfl (hb hby at_11) rfl ?_
      show Steps p.tables e below (s₁.setTop (mkF m 12 #[.val (.int p1), .val (.int p2), .val (.int p3), .val (.int p4), .val (.int (3 : Int32)), .unset, .unset, .unset, .unset, .unset, .unset] [(.int ((p3 &&& (65535 : Int32)) - (32768 : Int32)))])) _
      refine XS.i2dS X0.here hx rfl (hb hby at_12) rfl (v := (FP.i2d ((p3 &&& (65535 : Int32)) - (32768 : Int32)))) rfl ?_
      show Steps p.tables e below (s₁.setTop (mkF m 13 #[.val (.int p1), .val (.int p2), .val (.int p3), .val (.int p4), .val (.int (3 : Int32)), .unset, .unset, .unset, .unset, .unset, .unset] [(.double (FP.i2d ((p3 &&& (65535 : Int32)) - (32768 : Int32))))])) _
      refine XS.dstore X0.here hx rfl (hb hby at_13) rfl (l' := #[.val (.int p1), .val (.int p2), .val (.int p3), .val (.int p4), .val (.int (3 : Int32)), .val (.double (FP.i2d ((p3 &&& (65535 : Int32)) - (32768 : Int32)))), .second, .unset, .unset, .unset, .unset]) rfl ?_
      show Steps p.tables e below (s₁.setTop (mkF m 15 #[.val (.int p1), .val (.int p2), .val (.int p3), .val (.int p4), .val (.int (3 : Int32)), .val (.double (FP.i2d ((p3 &&& (65535 : Int32)) - (32768 : Int32)))), .second, .unset, .unset, .unset, .unset] [])) _
      refine XS.iloadN X0.here hx rfl (hb hby at_15) rfl ?_
      show Steps p.tables e below (s₁.setTop (mkF m 16 #[.val (.int p1), .val (.int p2), .val (.int p3), .val (.int p4), .val (.int (3 : Int32)), .val (.double (FP.i2d ((p3 &&& (65535 : Int32)) - (32768 : Int32)))), .second, .unset, .unset, .unset, .unset] [(.int p4)])) _
      refine X0.ldcInt hx hown (mvT hZ (hw _ (List.mem_of_getElem? (i := 0) rfl))) (g := (mkF m 16 #[.val (.int p1), .val (.int p2), .val (.int p3), .val (.int p4), .val (.int (3 : Int32)), .val (.double (FP.i2d ((p3 &&& (65535 : Int32)) - (32768 : Int32)))), .second, .unset, .unset, .unset, .unset] [(.int p4)])) rfl (hb hby at_16) _ ?_
      show Steps p.tables e below (s₁.setTop (mkF m 18 #[.val (.int p1), .val (.int p2), .val (.int p3), .val (.int p4), .val (.int (3 : Int32)), .val (.double (FP.i2d ((p3 &&& (65535 : Int32)) - (32768 : Int32)))), .second, .unset, .unset, .unset, .unset] [(.int (65535 : Int32)), (.int p4)])) _
      refine XS.iand X0.here hx rfl (hb hby at_18) rfl ?_
      show Steps p.tables e below (s₁.setTop (mkF m 19 #[.val (.int p1), .val (.int p2), .val (.int p3), .val (.int p4), .val (.int (3 : Int32)), .val (.double (FP.i2d ((p3 &&& (65535 : Int32)) - (32768 : Int32)))), .second, .unset, .unset, .unset, .unset] [(.int (p4 &&& (65535 : Int32)))])) _
      refine X0.ldcInt hx hown (mvT hZ (hw _ (List.mem_of_getElem? (i := 1) rfl))) (g := (mkF m 19 #[.val (.int p1), .val (.int p2), .val (.int p3), .val (.int p4), .val (.int (3 : Int32)), .val (.double (FP.i2d ((p3 &&& (65535 : Int32)) - (32768 : Int32)))), .second, .unset, .unset, .unset, .unset] [(.int (p4 &&& (65535 : Int32)))])) rfl (hb hby at_19) _ ?_
      show Steps p.tables e below (s₁.setTop (mkF m 21 #[.val (.int p1), .val (.int p2), .val (.int p3), .val (.int p4), .val (.int (3 : Int32)), .val (.double (FP.i2d ((p3 &&& (65535 : Int32)) - (32768 : Int32)))), .second, .unset, .unset, .unset, .unset] [(.int (32768 : Int32)), (.int (p4 &&& (65535 : Int32)))])) _
      refine XS.isub X0.here hx rfl (hb hby at_21) rfl ?_
      show Steps p.tables e below (s₁.setTop (mkF m 22 #[.val (.int p1), .val (.int p2), .val (.int p3), .val (.int p4), .val (.int (3 : Int32)), .val (.double (FP.i2d ((p3 &&& (65535 : Int32)) - (32768 : Int32)))), .second, .unset, .unset, .unset, .unset] [(.int ((p4 &&& (65535 : Int32)) - (32768 : Int32)))])) _
      refine XS.i2dS X0.here hx rfl (hb hby at_22) rfl (v := (FP.i2d ((p4 &&& (65535 : Int32)) - (32768 : Int32)))) rfl ?_
      show Steps p.tables e below (s₁.setTop (mkF m 23 #[.val (.int p1), .val (.int p2), .val (.int p3), .val (.int p4), .val (.int (3 : Int32)), .val (.double (FP.i2d ((p3 &&& (65535 : Int32)) - (32768 : Int32)))), .second, .unset, .unset, .unset, .unset] [(.double (FP.i2d ((p4 &&& (65535 : Int32)) - (32768 : Int32))))])) _
      refine XS.dstore X0.here hx rfl (hb hby at_23) rfl (l' := #[.val (.int p1), .val (.int p2), .val (.int p3), .val (.int p4), .val (.int (3 : Int32)), .val (.double (FP.i2d ((p3 &&& (65535 : Int32)) - (32768 : Int32)))), .second, .val (.double (FP.i2d ((p4 &&& (65535 : Int32)) - (32768 : Int32)))), .second, .unset, .unset]) rfl ?_
      show Steps p.tables e below (s₁.setTop (mkF m 25 #[.val (.int p1), .val (.int p2), .val (.int p3), .val (.int p4), .val (.int (3 : Int32)), .val (.double (FP.i2d ((p3 &&& (65535 : Int32)) - (32768 : Int32)))), .second, .val (.double (FP.i2d ((p4 &&& (65535 : Int32)) - (32768 : Int32)))), .second, .unset, .unset] [])) _
      refine st30 _ ?_
      show Steps p.tables e below (T30.setTop (mkF m 28 #[.val (.int p1), .val (.int p2), .val (.int p3), .val (.int p4), .val (.int (3 : Int32)), .val (.double (FP.i2d ((p3 &&& (65535 : Int32)) - (32768 : Int32)))), .second, .val (.double (FP.i2d ((p4 &&& (65535 : Int32)) - (32768 : Int32)))), .second, .unset, .unset] [(.ref b30)])) _
      refine XS.dup X30.here hx rfl (hb hby at_28) rfl rfl ?_
      show Steps p.tables e below (T30.setTop (mkF m 29 #[.val (.int p1), .val (.int p2), .val (.int p3), .val (.int p4), .val (.int (3 : Int32)), .val (.double (FP.i2d ((p3 &&& (65535 : Int32)) - (32768 : Int32)))), .second, .val (.double (FP.i2d ((p4 &&& (65535 : Int32)) - (32768 : Int32)))), .second, .unset, .unset] [(.ref b30), (.ref b30)])) _
      refine XS.iloadN X30.here hx rfl (hb hby at_29) rfl ?_
      show Steps p.tables e below (T30.setTop (mkF m 30 #[.val (.int p1), .val (.int p2), .val (.int p3), .val (.int p4), .val (.int (3 : Int32)), .val (.double (FP.i2d ((p3 &&& (65535 : Int32)) - (32768 : Int32)))), .second, .val (.double (FP.i2d ((p4 &&& (65535 : Int32)) - (32768 : Int32)))), .second, .unset, .unset] [(.int p1), (.ref b30), (.ref b30)])) _
      refine XS.iload X30.here hx rfl (hb hby at_30) rfl ?_
      show Steps p.tables e below (T30.setTop (mkF m 32 #[.val (.int p1), .val (.int p2), .val (.int p3), .val (.int p4), .val (.int (3 : Int32)), .val (.double (FP.i2d ((p3 &&& (65535 : Int32)) - (32768 : Int32)))), .second, .val (.double (FP.i2d ((p4 &&& (65535 : Int32)) - (32768 : Int32)))), .second, .unset, .unset] [(.int (3 : Int32)), (.int p1), (.ref b30), (.ref b30)])) _
      refine XS.dload X30.here hx rfl (hb hby at_32) rfl ?_
      show Steps p.tables e below (T30.setTop (mkF m 34 #[.val (.int p1), .val (.int p2), .val (.int p3), .val (.int p4), .val (.int (3 : Int32)), .val (.double (FP.i2d ((p3 &&& (65535 : Int32)) - (32768 : Int32)))), .second, .val (.double (FP.i2d ((p4 &&& (65535 : Int32)) - (32768 : Int32)))), .second, .unset, .unset] [(.double (FP.i2d ((p3 &&& (65535 : Int32)) - (32768 : Int32)))), (.int (3 : Int32)), (.int p1), (.ref b30), (.ref b30)])) _
      refine XS.dload X30.here hx rfl (hb hby at_34) rfl ?_
      show Steps p.tables e below (T30.setTop (mkF m 36 #[.val (.int p1), .val (.int p2), .val (.int p3), .val (.int p4), .val (.int (3 : Int32)), .val (.double (FP.i2d ((p3 &&& (65535 : Int32)) - (32768 : Int32)))), .second, .val (.double (FP.i2d ((p4 &&& (65535 : Int32)) - (32768 : Int32)))), .second, .unset, .unset] [(.double (FP.i2d ((p4 &&& (65535 : Int32)) - (32768 : Int32)))), (.double (FP.i2d ((p3 &&& (65535 : Int32)) - (32768 : Int32)))), (.int (3 : Int32)), (.int p1), (.ref b30), (.ref b30)])) _
      refine st31 _ ?_
      show Steps p.tables e below (T31.setTop (mkF m 39 #[.val (.int p1), .val (.int p2), .val (.int p3), .val (.int p4), .val (.int (3 : Int32)), .val (.double (FP.i2d ((p3 &&& (65535 : Int32)) - (32768 : Int32)))), .second, .val (.double (FP.i2d ((p4 &&& (65535 : Int32)) - (32768 : Int32)))), .second, .unset, .unset] [(.ref r31), (.int p1), (.ref b30), (.ref b30)])) _
      refine st35.trans ?_
      show Steps p.tables e below (T35.setTop (mkF m 42 #[.val (.int p1), .val (.int p2), .val (.int p3), .val (.int p4), .val (.int (3 : Int32)), .val (.double (FP.i2d ((p3 &&& (65535 : Int32)) - (32768 : Int32)))), .second, .val (.double (FP.i2d ((p4 &&& (65535 : Int32)) - (32768 : Int32)))), .second, .unset, .unset] [(.ref b30)])) _
      refine XS.astore X35.here hx rfl (hb hby at_42) rfl rfl (l' := #[.val (.int p1), .val (.int p2), .val (.int p3), .val (.int p4), .val (.int (3 : Int32)), .val (.double (FP.i2d ((p3 &&& (65535 : Int32)) - (32768 : Int32)))), .second, .val (.double (FP.i2d ((p4 &&& (65535 : Int32)) - (32768 : Int32)))), .second, .val (.ref b30), .unset]) rfl ?_
      show Steps p.tables e below (T35.setTop (mkF m 44 #[.val (.int p1), .val (.int p2), .val (.int p3), .val (.int p4), .val (.int (3 : Int32)), .val (.double (FP.i2d ((p3 &&& (65535 : Int32)) - (32768 : Int32)))), .second, .val (.double (FP.i2d ((p4 &&& (65535 : Int32)) - (32768 : Int32)))), .second, .val (.ref b30), .unset] [])) _
      refine XS.aload X35.here hx rfl (hb hby at_44) rfl rfl ?_
      show Steps p.tables e below (T35.setTop (mkF m 46 #[.val (.int p1), .val (.int p2), .val (.int p3), .val (.int p4), .val (.int (3 : Int32)), .val (.double (FP.i2d ((p3 &&& (65535 : Int32)) - (32768 : Int32)))), .second, .val (.double (FP.i2d ((p4 &&& (65535 : Int32)) - (32768 : Int32)))), .second, .val (.ref b30), .unset] [(.ref b30)])) _
      refine st36.trans ?_
      show Steps p.tables e below (T36.setTop (mkF m 49 #[.val (.int p1), .val (.int p2), .val (.int p3), .val (.int p4), .val (.int (3 : Int32)), .val (.double (FP.i2d ((p3 &&& (65535 : Int32)) - (32768 : Int32)))), .second, .val (.double (FP.i2d ((p4 &&& (65535 : Int32)) - (32768 : Int32)))), .second, .val (.ref b30), .unset] [(.int (0 : Int32))])) _
      refine XS.istore X36.here hx rfl (hb hby at_49) rfl (l' := #[.val (.int p1), .val (.int p2), .val (.int p3), .val (.int p4), .val (.int (3 : Int32)), .val (.double (FP.i2d ((p3 &&& (65535 : Int32)) - (32768 : Int32)))), .second, .val (.double (FP.i2d ((p4 &&& (65535 : Int32)) - (32768 : Int32)))), .second, .val (.ref b30), .val (.int (0 : Int32))]) rfl ?_
      show Steps p.tables e below (T36.setTop (mkF m 51 #[.val (.int p1), .val (.int p2), .val (.int p3), .val (.int p4), .val (.int (3 : Int32)), .val (.double (FP.i2d ((p3 &&& (65535 : Int32)) - (32768 : Int32)))), .second, .val (.double (FP.i2d ((p4 &&& (65535 : Int32)) - (32768 : Int32)))), .second, .val (.ref b30), .val (.int (0 : Int32))] [])) _
      refine XS.iload X36.here hx rfl (hb hby at_51) rfl ?_
      show Steps p.tables e below (T36.setTop (mkF m 53 #[.val (.int p1), .val (.int p2), .val (.int p3), .val (.int p4), .val (.int (3 : Int32)), .val (.double (FP.i2d ((p3 &&& (65535 : Int32)) - (32768 : Int32)))), .second, .val (.double (FP.i2d ((p4 &&& (65535 : Int32)) - (32768 : Int32)))), .second, .val (.ref b30), .val (.int (0 : Int32))] [(.int (0 : Int32))])) _
      refine XS.iload X36.here hx rfl (hb hby at_53) rfl ?_
      show Steps p.tables e below (T36.setTop (mkF m 55 #[.val (.int p1), .val (.int p2), .val (.int p3), .val (.int p4), .val (.int (3 : Int32)), .val (.double (FP.i2d ((p3 &&& (65535 : Int32)) - (32768 : Int32)))), .second, .val (.double (FP.i2d ((p4 &&& (65535 : Int32)) - (32768 : Int32)))), .second, .val (.ref b30), .val (.int (0 : Int32))] [(.int (3 : Int32)), (.int (0 : Int32))])) _
      refine XS.ifYes X36.here hx rfl (pc0 := 55) (pc' := 62) rfl (hb hby at_55) rfl ((if0 _ _).trans (feq (by decide : ¬ ((3 : Int32) = (0 : Int32)))).2) (by decide) (by decide) ?_
      show Steps p.tables e below (T36.setTop (mkF m 62 #[.val (.int p1), .val (.int p2), .val (.int p3), .val (.int p4), .val (.int (3 : Int32)), .val (.double (FP.i2d ((p3 &&& (65535 : Int32)) - (32768 : Int32)))), .second, .val (.double (FP.i2d ((p4 &&& (65535 : Int32)) - (32768 : Int32)))), .second, .val (.ref b30), .val (.int (0 : Int32))] [(.int (0 : Int32))])) _
      refine XS.iconst X36.here hx rfl (hb hby at_62) ?_
      show Steps p.tables e below (T36.setTop (mkF m 63 #[.val (.int p1), .val (.int p2), .val (.int p3), .val (.int p4), .val (.int (3 : Int32)), .val (.double (FP.i2d ((p3 &&& (65535 : Int32)) - (32768 : Int32)))), .second, .val (.double (FP.i2d ((p4 &&& (65535 : Int32)) - (32768 : Int32)))), .second, .val (.ref b30), .val (.int (0 : Int32))] [(.int (0 : Int32)), (.int (0 : Int32))])) _
      refine XS.icmpNo X36.here hx rfl (hb hby at_63) rfl (teq (rfl : (0 : Int32) = (0 : Int32))).2 ?_
      show Steps p.tables e below (T36.setTop (mkF m 66 #[.val (.int p1), .val (.int p2), .val (.int p3), .val (.int p4), .val (.int (3 : Int32)), .val (.double (FP.i2d ((p3 &&& (65535 : Int32)) - (32768 : Int32)))), .second, .val (.double (FP.i2d ((p4 &&& (65535 : Int32)) - (32768 : Int32)))), .second, .val (.ref b30), .val (.int (0 : Int32))] [])) _
      refine XS.aload X36.here hx rfl (hb hby at_66) rfl rfl ?_
      show Steps p.tables e below (T36.setTop (mkF m 68 #[.val (.int p1), .val (.int p2), .val (.int p3), .val (.int p4), .val (.int (3 : Int32)), .val (.double (FP.i2d ((p3 &&& (65535 : Int32)) - (32768 : Int32)))), .second, .val (.double (FP.i2d ((p4 &&& (65535 : Int32)) - (32768 : Int32)))), .second, .val (.ref b30), .val (.int (0 : Int32))] [(.ref b30)])) _
      refine st37.trans ?_
      show Steps p.tables e below (T37.setTop (mkF m 71 #[.val (.int p1), .val (.int p2), .val (.int p3), .val (.int p4), .val (.int (3 : Int32)), .val (.double (FP.i2d ((p3 &&& (65535 : Int32)) - (32768 : Int32)))), .second, .val (.double (FP.i2d ((p4 &&& (65535 : Int32)) - (32768 : Int32)))), .second, .val (.ref b30), .val (.int (0 : Int32))] [(.int (3 : Int32))])) _
      refine XS.iload X37.here hx rfl (hb hby at_71) rfl ?_
      show Steps p.tables e below (T37.setTop (mkF m 73 #[.val (.int p1), .val (.int p2), .val (.int p3), .val (.int p4), .val (.int (3 : Int32)), .val (.double (FP.i2d ((p3 &&& (65535 : Int32)) - (32768 : Int32)))), .second, .val (.double (FP.i2d ((p4 &&& (65535 : Int32)) - (32768 : Int32)))), .second, .val (.ref b30), .val (.int (0 : Int32))] [(.int (3 : Int32)), (.int (3 : Int32))])) _
      refine XS.icmpNo X37.here hx rfl (hb hby at_73) rfl (teq (rfl : (3 : Int32) = (3 : Int32))).2 ?_
      show Steps p.tables e below (T37.setTop (mkF m 76 #[.val (.int p1), .val (.int p2), .val (.int p3), .val (.int p4), .val (.int (3 : Int32)), .val (.double (FP.i2d ((p3 &&& (65535 : Int32)) - (32768 : Int32)))), .second, .val (.double (FP.i2d ((p4 &&& (65535 : Int32)) - (32768 : Int32)))), .second, .val (.ref b30), .val (.int (0 : Int32))] [])) _
      refine XS.iconst X37.here hx rfl (hb hby at_76) ?_
      show Steps p.tables e below (T37.setTop (mkF m 77 #[.val (.int p1), .val (.int p2), .val (.int p3), .val (.int p4), .val (.int (3 : Int32)), .val (.double (FP.i2d ((p3 &&& (65535 : Int32)) - (32768 : Int32)))), .second, .val (.double (FP.i2d ((p4 &&& (65535 : Int32)) - (32768 : Int32)))), .second, .val (.ref b30), .val (.int (0 : Int32))] [(.int (1 : Int32))])) _
      refine XS.goto X37.here hx rfl (pc0 := 77) (pc' := 81) rfl (hb hby at_77) (by decide) (by decide) ?_
      show Steps p.tables e below (T37.setTop (mkF m 81 #[.val (.int p1), .val (.int p2), .val (.int p3), .val (.int p4), .val (.int (3 : Int32)), .val (.double (FP.i2d ((p3 &&& (65535 : Int32)) - (32768 : Int32)))), .second, .val (.double (FP.i2d ((p4 &&& (65535 : Int32)) - (32768 : Int32)))), .second, .val (.ref b30), .val (.int (0 : Int32))] [(.int (1 : Int32))])) _
      exact retN X37 hx (t := .boolean) Bd.returns (by simp) (hb hby at_81) hr
    · show Q_rm0 Z p1 p2 p3 p4 h0 n0 _ T37.heap _
      rw [e37]
      exact ⟨rfl, N37⟩
set_option maxRecDepth 65536 in
set_option maxHeartbeats 40000000 in
theorem comes_1 {Post : Tables → Env → Array Value → State → Outcome → State → Prop} (hpost : ∀ tb e args s v u, (limb_1_1.after args s (.returned v) u = true ∧ limb_1_2.after args s (.returned v) u = true ∧ True) → FrameEnd s (.returned v) u (Jvm.fieldLocs frame_1_writes args s ++ Jvm.arrayLocs frame_1_arrays args s ++ Jvm.staticLocs frame_1_statics s) 16 128 → Post tb e args s (.returned v) u) :
    ArmFor flags0 classFile x code maxLocals ret World_1 tables_1 room_1 Calls_1 rest_1 Pre_1 Post := by
  intro l hfl _ _ p e ha hc hk s m args below hf hA hF happ hP
  obtain ⟨hcalls, hrest, hpre⟩ := hP
  obtain ⟨-, -, -, hnamed, -, -, -, hat⟩ := (Spec.applies_iff hf).mp happ
  obtain ⟨hg, hn⟩ := and_e (Cond.before_iff.mp (show (Jvm.Cond.and given_1 narrow_1).before args s = true from hpre))
  obtain ⟨hcount, hgs⟩ := and_e hg
  obtain ⟨hg0, hgr0⟩ := and_e hgs
  obtain ⟨hg1, hgr1⟩ := and_e hgr0
  obtain ⟨hg2, hgr2⟩ := and_e hgr1
  obtain ⟨w0, w1, w2, w3, rfl⟩ : ∃ w0 w1 w2 w3 : Value, args = #[w0, w1, w2, w3] := by
    have hs : args.size = 4 := by simpa [Cond.value, given_1] using hcount
    obtain ⟨L⟩ := args
    match L, hs with
    | [w0, w1, w2, w3], _ => exact ⟨w0, w1, w2, w3, rfl⟩
  have hw := fun d (hd : d ∈ tables_1) => atoms_spec (ws := Jvm.Cond.code x code maxLocals ret :: tables_1) hat d (List.mem_cons_of_mem _ hd)
  have hfit : Fit s := fun {y c} hc i hi => by
    obtain ⟨ha, rfl⟩ := Array.getElem?_eq_some_iff.mp hc
    have q := List.all_eq_true.mp ((Array.all_eq_true_iff_forall_mem.mp hF) _ (Array.getElem_mem ha)) i (List.mem_range.mpr hi)
    simpa [Array.getElem?_eq_getElem hi] using q
  obtain ⟨i0, ei0⟩ := is_v hg0
  obtain rfl : w0 = (.int i0) := Option.some.inj ei0
  obtain ⟨i1, ei1⟩ := is_v hg1
  obtain rfl : w1 = (.int i1) := Option.some.inj ei1
  obtain ⟨i2, ei2⟩ := is_v hg2
  obtain rfl : w2 = (.int i2) := Option.some.inj ei2
  obtain ⟨i3, ei3⟩ := is_v hgr2
  obtain rfl : w3 = (.int i3) := Option.some.inj ei3
  obtain ⟨n, o, h1, h2, h3, _, L, rfl, ⟨rfl, N⟩, hq⟩ := rm0 l s _ hw tables_1 i0 i1 i2 i3 s.heap s.heap.size (Nat.le_refl _) p e ha hc hk s m _ below hf ((Spec.applies_iff_loose hf).mp happ).1 ⟨rfl, State.Warmed39.refl s, rfl⟩ trivial
  refine ⟨n, _, h1, h2, h3, hpost _ _ _ _ _ _ ⟨Cond.after_iff.mpr rfl, Cond.after_iff.mpr (eq_i res_at (Term.int_eval (1)) rfl), trivial⟩ ⟨hq.1, hq.2.1, (hq.2.2.sift fun y hy => Or.inr (N y hy)).mono (by decide) (by decide)⟩⟩
theorem main_1_1 : Claimed_1_1 := comes_1 fun _ _ _ _ _ _ h hF => ⟨h.1, hF⟩
theorem main_1_2 : Claimed_1_2 := comes_1 fun _ _ _ _ _ _ h hF => ⟨h.2.1, hF⟩
end Jvm.Pilot.@@N@@
namespace Jvm.Pilot.@@N@@
open Jvm Jvm.ClassFile Sem Op Lib Jvm.Free Jvm.Stand Jvm.Pilot.@@N@@.Jvm.D
/-! MADE BY PROGRAM (witnessworld.py) out of the Statement's table words and the real class files: 10 classes; the members and pool entries that the words name. The judged class is class 1, her method 2. -/
namespace start1
open Jvm.ClassFile
def u (s : String) : CpInfo := .utf8 (stringToUtf16 s)
/-- a pool by its gaps: so many unusable entries, then the entry; so many at the end -/
def gap : Nat → List CpInfo → List CpInfo
  | 0, r => r
  | n + 1, r => .unusable :: gap n r
def poolList (es : List (Nat × CpInfo)) (last : Nat) : List CpInfo := es.foldr (fun e r => gap e.1 (e.2 :: r)) (gap last [])
def pool (es : List (Nat × CpInfo)) (last : Nat) : Array CpInfo := ⟨poolList es last⟩
def fileOf (pool : Array CpInfo) (this : Nat) (attrs : Array Attribute := #[]) (ms : Array MethodInfo := #[]) (fl : Nat := 33) (sup : Nat := 0) (ifs : Array Nat := #[]) (fds : Array FieldInfo := #[]) : ClassFile where
  minorVersion := 0
  majorVersion := 65
  constantPool := pool
  accessFlags := fl
  thisClass := this
  superClass := sup
  interfaces := ifs
  fields := fds
  methods := ms
  attributes := attrs
def plain (name : String) (sup : Option ClassId) : Class where
  name := name
  kind := .ordinary
  loader := none
  accessFlags := 33
  super := sup
  interfaces := #[]
  cf := none
  fields := #[]
  methods := #[]
  instanceTypes := #[]
  staticTypes := #[]
  resolved := #[]
  callSites := []
  init := .initialized
  statics := none
  mirror := none

def pool0 : Array CpInfo := pool [(5, u "<init>"), (0, u "()V"), (1, .class_ 10), (1, u "java/lang/Object")] 113

def k0c0 : Code := { maxStack := 0, maxLocals := 1, code := object_method_1_code, exceptionTable := #[], attributes := #[] }
def k0m0 : Method := { name := "<init>", desc := "()V", sig := { parameters := [], returnType := none }, accessFlags := 1, code := some k0c0 }
/-- java/lang/Object -/
def k0 : Class := { plain "java/lang/Object" none with
  accessFlags := 33
  interfaces := #[]
  cf := some (fileOf pool0 8 #[] #[{ accessFlags := 1, nameIndex := 5, descriptorIndex := 6, attributes := #[] }] 33 0 #[] #[])
  fields := #[]
  methods := #[k0m0]
  instanceTypes := #[]
  staticTypes := #[]
  resolved := Array.replicate 124 none
  statics := none }

def pool1 : Array CpInfo := pool [(2, .class_ 4), (1, u "java/lang/Object"), (0, u "<init>"), (0, u "()V"), (0, .integer 65535), (0, .integer 32768), (0, .class_ 10), (0, u "com/example/wellknit/wellknit/LineString"), (0, .methodref 12 13), (0, .class_ 14), (0, .nameAndType 15 16), (0, u "com/example/wellknit/wellknit/LineStringIsEmptyPinLaw"), (0, u "coords"), (0, u "(IDD)[D"), (0, .methodref 9 18), (0, .nameAndType 5 19), (0, u "(I[D)V"), (0, .methodref 9 21), (0, .nameAndType 22 23), (0, u "isEmpty"), (0, u "()Z"), (0, .methodref 9 25), (0, .nameAndType 26 27), (0, u "pointCount"), (0, u "()I"), (3, u "law"), (0, u "(IIII)Z")] 2

def k1m0 : Method := { name := "<init>", desc := "()V", sig := { parameters := [], returnType := none }, accessFlags := 2, code := none }
def k1c1 : Code := { maxStack := 5, maxLocals := 5, code := method_2_code, exceptionTable := #[], attributes := #[] }
def k1m1 : Method := { name := "coords", desc := "(IDD)[D", sig := { parameters := [.int, .double, .double], returnType := some (.array .double) }, accessFlags := 10, code := some k1c1 }
def k1c2 : Code := { maxStack := 8, maxLocals := 11, code := code, exceptionTable := #[], attributes := #[] }
def k1m2 : Method := { name := "law", desc := "(IIII)Z", sig := { parameters := [.int, .int, .int, .int], returnType := some .boolean }, accessFlags := 9, code := some k1c2 }
/-- com/example/wellknit/wellknit/LineStringIsEmptyPinLaw -/
def k1 : Class := { plain "com/example/wellknit/wellknit/LineStringIsEmptyPinLaw" (some 0) with
  accessFlags := 49
  interfaces := #[]
  cf := some (fileOf pool1 12 #[] #[{ accessFlags := 2, nameIndex := 5, descriptorIndex := 6, attributes := #[] }, { accessFlags := 10, nameIndex := 15, descriptorIndex := 16, attributes := #[] }, { accessFlags := 9, nameIndex := 31, descriptorIndex := 32, attributes := #[] }] 49 2 #[] #[])
  fields := #[]
  methods := #[k1m0, k1m1, k1m2]
  instanceTypes := #[]
  staticTypes := #[]
  resolved := Array.replicate 35 none
  statics := none }

def pool2 : Array CpInfo := pool [(1, .methodref 2 3), (0, .class_ 4), (0, .nameAndType 5 6), (0, u "java/lang/Object"), (0, u "<init>"), (0, u "()V"), (0, .fieldref 8 9), (0, .class_ 10), (0, .nameAndType 11 12), (0, u "com/example/wellknit/wellknit/Geometry"), (0, u "srid"), (0, u "I"), (63, u "MAX_SRID"), (0, u "J"), (1, u "(I)V")] 45

def k2c0 : Code := { maxStack := 2, maxLocals := 2, code := prog_2_method_1_code, exceptionTable := #[], attributes := #[] }
def k2m0 : Method := { name := "<init>", desc := "(I)V", sig := { parameters := [.int], returnType := none }, accessFlags := 0, code := some k2c0 }
/-- com/example/wellknit/wellknit/Geometry -/
def k2 : Class := { plain "com/example/wellknit/wellknit/Geometry" (some 0) with
  accessFlags := 1057
  interfaces := #[]
  cf := some (fileOf pool2 8 #[] #[{ accessFlags := 0, nameIndex := 5, descriptorIndex := 79, attributes := #[] }] 1057 2 #[] #[{ accessFlags := 25, nameIndex := 76, descriptorIndex := 77, attributes := #[] }, { accessFlags := 18, nameIndex := 11, descriptorIndex := 12, attributes := #[] }])
  fields := #[{ name := "MAX_SRID", type := .long, accessFlags := 25, slot := 0, constantValue := 0 }, { name := "srid", type := .int, accessFlags := 18, slot := 0, constantValue := 0 }]
  methods := #[k2m0]
  instanceTypes := #[.int]
  staticTypes := #[.long]
  resolved := Array.replicate 125 none
  statics := none }

def pool3 : Array CpInfo := pool [(1, .methodref 2 3), (0, .class_ 4), (0, .nameAndType 5 6), (0, u "com/example/wellknit/wellknit/Geometry"), (0, u "<init>"), (0, u "(I)V"), (0, .fieldref 8 9), (0, .class_ 10), (0, .nameAndType 11 12), (0, u "com/example/wellknit/wellknit/LineString"), (0, u "coordinates"), (0, u "[D"), (2, u "pointCount"), (0, u "()I"), (12, u "(I[D)V"), (5, u "isEmpty"), (0, u "()Z")] 6

def k3c0 : Code := { maxStack := 2, maxLocals := 3, code := prog_7_method_1_code, exceptionTable := #[], attributes := #[] }
def k3m0 : Method := { name := "<init>", desc := "(I[D)V", sig := { parameters := [.int, (.array .double)], returnType := none }, accessFlags := 0, code := some k3c0 }
def k3c1 : Code := { maxStack := 2, maxLocals := 1, code := prog_7_method_2_code, exceptionTable := #[], attributes := #[] }
def k3m1 : Method := { name := "pointCount", desc := "()I", sig := { parameters := [], returnType := some .int }, accessFlags := 1, code := some k3c1 }
def k3c2 : Code := { maxStack := 1, maxLocals := 1, code := prog_7_method_5_code, exceptionTable := #[], attributes := #[] }
def k3m2 : Method := { name := "isEmpty", desc := "()Z", sig := { parameters := [], returnType := some .boolean }, accessFlags := 1, code := some k3c2 }
/-- com/example/wellknit/wellknit/LineString -/
def k3 : Class := { plain "com/example/wellknit/wellknit/LineString" (some 2) with
  accessFlags := 49
  interfaces := #[]
  cf := some (fileOf pool3 8 #[] #[{ accessFlags := 0, nameIndex := 5, descriptorIndex := 29, attributes := #[] }, { accessFlags := 1, nameIndex := 15, descriptorIndex := 16, attributes := #[] }, { accessFlags := 1, nameIndex := 35, descriptorIndex := 36, attributes := #[] }] 49 2 #[] #[{ accessFlags := 18, nameIndex := 11, descriptorIndex := 12, attributes := #[] }])
  fields := #[{ name := "coordinates", type := (.array .double), accessFlags := 18, slot := 1, constantValue := 0 }]
  methods := #[k3m0, k3m1, k3m2]
  instanceTypes := #[.int, (.array .double)]
  staticTypes := #[]
  resolved := Array.replicate 43 none
  statics := none }

def pool4 : Array CpInfo := pool [(1, u "java/lang/Cloneable"), (0, .class_ 1), (0, u "java/lang/Object"), (0, .class_ 3)] 3

/-- java/lang/Cloneable -/
def k4 : Class := { plain "java/lang/Cloneable" (some 0) with
  accessFlags := 1537
  interfaces := #[]
  cf := some (fileOf pool4 2 #[] #[] 1537 4 #[] #[])
  fields := #[]
  methods := #[]
  instanceTypes := #[]
  staticTypes := #[]
  resolved := Array.replicate 8 none
  statics := none }

def pool5 : Array CpInfo := pool [(1, u "java/io/Serializable"), (0, .class_ 1), (0, u "java/lang/Object"), (0, .class_ 3)] 3

/-- java/io/Serializable -/
def k5 : Class := { plain "java/io/Serializable" (some 0) with
  accessFlags := 1537
  interfaces := #[]
  cf := some (fileOf pool5 2 #[] #[] 1537 4 #[] #[])
  fields := #[]
  methods := #[]
  instanceTypes := #[]
  staticTypes := #[]
  resolved := Array.replicate 8 none
  statics := none }

/-- the primitive byte -/
def k6 : Class := { plain "byte" none with kind := .primitive 'B', accessFlags := 0x411 }
/-- [B -/
def k7 : Class := { plain "[B" (some 0) with kind := .array 6 .byte, interfaces := #[4, 5], accessFlags := 1041 }

/-- the primitive int -/
def k8 : Class := { plain "int" none with kind := .primitive 'I', accessFlags := 0x411 }
/-- [I -/
def k9 : Class := { plain "[I" (some 0) with kind := .array 8 .int, interfaces := #[4, 5], accessFlags := 1041 }

/-- the primitive double -/
def k10 : Class := { plain "double" none with kind := .primitive 'D', accessFlags := 0x411 }
/-- [D -/
def k11 : Class := { plain "[D" (some 0) with kind := .array 10 .double, interfaces := #[4, 5], accessFlags := 1041 }

def heap : Heap := #[]
def classes : Array Class := #[k0, k1, k2, k3, k4, k5, k6, k7, k8, k9, k10, k11]
def interned : List (Array UInt16 × Addr) := []
def slotsUsed : Nat := 0
def theMethod : MethodId := ⟨1, 2⟩
def args0 : Array Value := #[.int 5, .int 6, .int 7, .int 8]
def aboutOver (below : List Frame) : State where
  vm := { classes := classes, interned := interned.toArray }
  heap := heap
  slotsUsed := slotsUsed
  threads := #[{ frames := .invoking theMethod args0 :: below }]
def below0 : List Frame := [.native { method := ⟨0, 0⟩, args := #[] }]
def about1 : State := aboutOver below0
def p0 : Program := .bare "" "" ""
def e0 : Env := launch0.env 0 0 0
theorem w_frames : about1.frames = Frame.invoking theMethod args0 :: below0 := rfl
set_option maxRecDepth 65536 in
theorem w_args : argsFit about1.vm theMethod args0 = true := by decide +kernel
set_option maxRecDepth 65536 in
theorem w_heap : heapFits about1 = true := by decide +kernel
set_option maxRecDepth 65536 in
theorem w_runnable : about1.curStatus? = some .runnable := by decide +kernel
set_option maxRecDepth 65536 in
theorem w_alone : about1.alone = true := by decide +kernel
set_option maxRecDepth 65536 in
theorem w_named : about1.methodNamed? x = some theMethod := by decide +kernel
set_option maxRecDepth 65536 in
theorem w_hears : about1.hears theMethod below0 = true := by decide +kernel
set_option maxRecDepth 65536 in
theorem w_ripe : about1.ripe theMethod args0 below0 = true := by decide +kernel
theorem w_running : about1.status = .running := rfl
set_option maxRecDepth 65536 in
theorem w_room : about1.hasRoom e0.platform room_1 = true :=
  launch0.hasRoom_least _ room_1 (by decide +kernel) (by decide +kernel) (by decide +kernel) (by decide +kernel) (by decide +kernel) (by decide +kernel)
theorem allAtoms_all (ts : List Jvm.Cond) (a : Array Jvm.Value) (st : Jvm.State) : (allAtoms ts).before a st = ts.all (fun c => c.before a st) := by
  induction ts with
  | nil => rfl
  | cons c t ih =>
    show (Jvm.Cond.and c (allAtoms t)).before a st = _
    rw [Jvm.Cond.before_and, ih, List.all_cons]
def words1 : List Jvm.Cond := Jvm.Cond.code x code maxLocals ret :: tables_1
/-- a 'code' word, met by the world's own term for the bytes: nothing is compared byte by byte -/
theorem code_word {y : MethodName} {bytes : ByteArray} {mx : Nat} {rt : Option FieldType} {a : Array Value} {s : State} {m : MethodId} {meth : Method} {c : Code} (h1 : s.methodNamed? y = some m) (h2 : s.vm.method? m = some meth) (h3 : meth.code = some c) (h4 : c.code = bytes)
    (h5 : (c.maxLocals == mx && c.exceptionTable.isEmpty && decide (c.maxStack ≤ mostOperands) && decide (meth.sig.returnType = rt) && !meth.locks && decide (parseMethodDescriptor y.desc = some meth.sig)) = true) : (Jvm.Cond.code y bytes mx rt).before a s = true := by
  simp only [Bool.and_eq_true, beq_iff_eq, Bool.not_eq_true', decide_eq_true_eq] at h5
  obtain ⟨⟨⟨⟨⟨g1, g2⟩, g3⟩, g4⟩, g5⟩, g6⟩ := h5
  simp [Cond.before, Cond.holds, Cond.value, h1, h2, h3, h4, g1, g2, g3, g4, g5, g6]
def isCode : Jvm.Cond → Bool
  | .code _ _ _ _ => true
  | _ => false
theorem all_split {L : List Jvm.Cond} {P : Jvm.Cond → Bool} (h1 : L.all (fun c => isCode c || P c) = true) (h2 : ∀ c ∈ L.filter isCode, P c = true) : L.all P = true := by
  refine List.all_eq_true.mpr fun c hc => ?_
  have h := List.all_eq_true.mp h1 c hc
  rcases Bool.eq_false_or_eq_true (isCode c) with hi | hi
  · exact h2 c (List.mem_filter.mpr ⟨hc, hi⟩)
  · simpa [hi] using h
set_option maxRecDepth 65536 in
theorem w_c0 : (Jvm.Cond.code x code maxLocals ret).before args0 about1 = true := code_word (m := ⟨1, 2⟩) (meth := k1m2) (c := k1c2) (by decide +kernel) rfl rfl rfl (by decide +kernel)
set_option maxRecDepth 65536 in
theorem w_c1 : (Jvm.Cond.code ({ cls := "com/example/wellknit/wellknit/LineStringIsEmptyPinLaw", name := "coords", desc := "(IDD)[D" } : Jvm.MethodName) method_2_code (5 : Nat) (Option.some (Jvm.ClassFile.FieldType.array Jvm.ClassFile.FieldType.double))).before args0 about1 = true := code_word (m := ⟨1, 1⟩) (meth := k1m1) (c := k1c1) (by decide +kernel) rfl rfl rfl (by decide +kernel)
set_option maxRecDepth 65536 in
theorem w_c2 : (Jvm.Cond.code ({ cls := "com/example/wellknit/wellknit/LineString", name := "<init>", desc := "(I[D)V" } : Jvm.MethodName) prog_7_method_1_code (3 : Nat) (Option.none : Option Jvm.ClassFile.FieldType)).before args0 about1 = true := code_word (m := ⟨3, 0⟩) (meth := k3m0) (c := k3c0) (by decide +kernel) rfl rfl rfl (by decide +kernel)
set_option maxRecDepth 65536 in
theorem w_c3 : (Jvm.Cond.code ({ cls := "com/example/wellknit/wellknit/Geometry", name := "<init>", desc := "(I)V" } : Jvm.MethodName) prog_2_method_1_code (2 : Nat) (Option.none : Option Jvm.ClassFile.FieldType)).before args0 about1 = true := code_word (m := ⟨2, 0⟩) (meth := k2m0) (c := k2c0) (by decide +kernel) rfl rfl rfl (by decide +kernel)
set_option maxRecDepth 65536 in
theorem w_c4 : (Jvm.Cond.code ({ cls := "java/lang/Object", name := "<init>", desc := "()V" } : Jvm.MethodName) object_method_1_code (1 : Nat) (Option.none : Option Jvm.ClassFile.FieldType)).before args0 about1 = true := code_word (m := ⟨0, 0⟩) (meth := k0m0) (c := k0c0) (by decide +kernel) rfl rfl rfl (by decide +kernel)
set_option maxRecDepth 65536 in
theorem w_c5 : (Jvm.Cond.code ({ cls := "com/example/wellknit/wellknit/LineString", name := "isEmpty", desc := "()Z" } : Jvm.MethodName) prog_7_method_5_code (1 : Nat) (Option.some Jvm.ClassFile.FieldType.boolean)).before args0 about1 = true := code_word (m := ⟨3, 2⟩) (meth := k3m2) (c := k3c2) (by decide +kernel) rfl rfl rfl (by decide +kernel)
set_option maxRecDepth 65536 in
theorem w_c6 : (Jvm.Cond.code ({ cls := "com/example/wellknit/wellknit/LineString", name := "pointCount", desc := "()I" } : Jvm.MethodName) prog_7_method_2_code (1 : Nat) (Option.some Jvm.ClassFile.FieldType.int)).before args0 about1 = true := code_word (m := ⟨3, 1⟩) (meth := k3m1) (c := k3c1) (by decide +kernel) rfl rfl rfl (by decide +kernel)
def codes1 : List Jvm.Cond := [Jvm.Cond.code x code maxLocals ret, Jvm.Cond.code ({ cls := "com/example/wellknit/wellknit/LineStringIsEmptyPinLaw", name := "coords", desc := "(IDD)[D" } : Jvm.MethodName) method_2_code (5 : Nat) (Option.some (Jvm.ClassFile.FieldType.array Jvm.ClassFile.FieldType.double)), Jvm.Cond.code ({ cls := "com/example/wellknit/wellknit/LineString", name := "<init>", desc := "(I[D)V" } : Jvm.MethodName) prog_7_method_1_code (3 : Nat) (Option.none : Option Jvm.ClassFile.FieldType), Jvm.Cond.code ({ cls := "com/example/wellknit/wellknit/Geometry", name := "<init>", desc := "(I)V" } : Jvm.MethodName) prog_2_method_1_code (2 : Nat) (Option.none : Option Jvm.ClassFile.FieldType), Jvm.Cond.code ({ cls := "java/lang/Object", name := "<init>", desc := "()V" } : Jvm.MethodName) object_method_1_code (1 : Nat) (Option.none : Option Jvm.ClassFile.FieldType), Jvm.Cond.code ({ cls := "com/example/wellknit/wellknit/LineString", name := "isEmpty", desc := "()Z" } : Jvm.MethodName) prog_7_method_5_code (1 : Nat) (Option.some Jvm.ClassFile.FieldType.boolean), Jvm.Cond.code ({ cls := "com/example/wellknit/wellknit/LineString", name := "pointCount", desc := "()I" } : Jvm.MethodName) prog_7_method_2_code (1 : Nat) (Option.some Jvm.ClassFile.FieldType.int)]
set_option maxRecDepth 65536 in
theorem codes_eq : words1.filter isCode = codes1 := rfl
theorem w_codes : ∀ c ∈ words1.filter isCode, c.before args0 about1 = true := by
  rw [codes_eq]
  intro c hc
  simp only [codes1, List.mem_cons, List.not_mem_nil, or_false] at hc
  rcases hc with rfl | rfl | rfl | rfl | rfl | rfl | rfl
  · exact w_c0
  · exact w_c1
  · exact w_c2
  · exact w_c3
  · exact w_c4
  · exact w_c5
  · exact w_c6
set_option maxRecDepth 65536 in
theorem w_t1 : (words1.take 24).all (fun c => isCode c || c.before args0 about1) = true := by decide +kernel
set_option maxRecDepth 65536 in
theorem w_t2 : (words1.drop 24).all (fun c => isCode c || c.before args0 about1) = true := by decide +kernel
theorem w_tables : (allAtoms (Jvm.Cond.code x code maxLocals ret :: tables_1)).before args0 about1 = true := by
  rw [allAtoms_all]
  show words1.all (fun c => c.before args0 about1) = true
  refine all_split ?_ w_codes
  rw [← List.take_append_drop 24 words1, List.all_append, w_t1, w_t2]
  rfl
set_option maxRecDepth 65536 in
theorem w_case : (Jvm.Cond.and given_1 narrow_1).before args0 about1 = true := by decide +kernel
theorem w_applies : (headSpec (Jvm.Cond.code x code maxLocals ret :: tables_1) room_1).applies x e0.platform about1 = true :=
  (Spec.applies_iff w_frames).mpr ⟨w_running, w_runnable, w_alone, w_named, w_hears, w_ripe, w_room, w_tables⟩
theorem atStart : AtStart classFile x code maxLocals ret World_1 tables_1 room_1 Calls_1 rest_1 Pre_1 launch0 p0 e0 about1 theMethod args0 below0 :=
  ⟨lists_1, trivial, launch0.admits_env _ _ _, launch0.least_env, fairChoices_fair.cas, fairChoices_fair.clock, w_frames, w_args, w_heap, w_applies, trivial, trivial, w_case⟩
end start1
theorem witness_1 : WitnessClaimed_1 := ⟨start1.p0, start1.e0, start1.about1, start1.theMethod, start1.args0, start1.below0, start1.atStart⟩
end Jvm.Pilot.@@N@@

import JvmDerived
import JvmDerived.Pilot.@@N@@Statement
import JvmDerived.Pilot.@@N@@Code
set_option linter.unusedVariables false
set_option linter.unusedSimpArgs false
@@BLOCK:NumsL.lean.txt@@
namespace Jvm.RoadKit
open Sem ClassFile Op Lib Jvm.Stand Jvm.Free Jvm.LawKit
section New
variable {p : Program} {l : Launch} {e : Env} {R : Room} {s : State} {m : MethodId} {args : Array Value} {below : List Frame} {meth : Method} {c : Code} {T : State} {locs : List Loc} {cells slots : Nat}
theorem retI (X : Stand p l e R s m args below meth c T locs cells slots) (hx : p.tables.exec = Jvm.exec) {pc : Nat} {Ls : Array Slot} {z : Int32} {rest : List Value} (hret : meth.sig.returnType = some .int) (hd : decode c.code pc = .ok (.ireturn, 1)) {fs : List Frame}
    (hl : ∀ (f : JFrame) (acts : List Action), f.method = m → f.locked = none → f.entered = [] → (doReturn e (T.setTop f) acts (some (.int z))).1 = T.setFrames fs) : Steps p.tables e below (T.setTop (mkF m pc Ls (.int z :: rest))) (T.setFrames fs) := by
  have hm' : T.vm.method? m = some meth := X.method'
  have hn : narrow .int (.int z) = .int z := rfl
  show Steps p.tables e below (T.setTop { method := m, pc := pc, locals := Ls, stack := _ :: rest, locked := none }) _
  jvm_step X.here [X.here.top, hx, hd, hm', hret, hn]
  first | (intro acts; rw [hl _ acts rfl rfl rfl]) | rw [hl _ _ rfl rfl rfl]
  exact Steps.refl _
end New
end Jvm.RoadKit
namespace Jvm.Pilot.@@N@@
open Jvm Jvm.ClassFile Sem Op Lib Jvm.Free Jvm.Stand Jvm.LawKit Jvm.RoadKit Bundle Jvm.Pilot.@@N@@.Jvm.D
theorem own_eqint {args : Array Value} {first s : State} {o : Option Outcome} {idx : List Nat} {t : Term} {k : Int32} (h : (Jvm.Cond.eq t (.int k)).value args first o s idx = some true) : t.eval args first o idx s = some (.int k) := by
  obtain ⟨x, y, hx, hy, hk, hk'⟩ := cmp_v (Or.inl h)
  have ey : y = .int k := (Option.some.inj ((Term.int_eval k).symm.trans hy)).symm
  subst ey
  obtain ⟨z, rfl⟩ := hk'
  have hv : (Jvm.Cond.eq t (.int k)).value args first o s idx = some (decide (z = k)) := by simp [Cond.value, hx, hy]
  have := gotT hv h
  rw [hx, this]
theorem own_eqref {args : Array Value} {first s : State} {o : Option Outcome} {idx : List Nat} {t u : Term} {v : Value} (h : (Jvm.Cond.eq t u).value args first o s idx = some true) (hu : u.eval args first o idx s = some v) (hv : v.isRef = true) : t.eval args first o idx s = some v := by
  obtain ⟨x, y, hx, hy, hk, hk'⟩ := cmp_v (Or.inl h)
  have ey : y = v := Option.some.inj (hy.symm.trans hu)
  subst ey
  have hxr : x.isRef = true := by cases y <;> simp [Value.isRef] at hv <;> exact hk'.2
  have := gotT (eq_R hx hy hxr hv) h
  rw [hx, this]
theorem own_fld {args : Array Value} {s : State} {t : Term} {C n d : String} {k : Int32} {a : Addr} (ht : t.eval args s none [] s = some (.ref a)) (h : (Jvm.Cond.eq (.field t C n d) (.int k)).value args s none s [] = some true) : Fld s s.heap a C n d (.int k) := Fld.start ((fld_at ht).symm.trans (own_eqint h))
theorem own_fld_inj {Z : State} {h : Heap} {a : Addr} {C n d : String} {v w : Value} (F : Fld Z h a C n d v) (G : Fld Z h a C n d w) : v = w := by
  obtain ⟨c1, cf1, k1, i1, f1, h1, h2, -, -, -, -, h3⟩ := F
  obtain ⟨c2, cf2, k2, i2, f2, g1, g2, -, -, -, -, g3⟩ := G
  rw [h1] at g1; cases g1
  rw [h2] at g2; cases g2
  exact Option.some.inj (h3.symm.trans g3)
theorem own_ne {Z : State} {h : Heap} {a b : Addr} {C n d : String} {i j : Int32} (F : Fld Z h a C n d (.int i)) (G : Fld Z h b C n d (.int j)) (hij : ¬ i = j) : ¬ a = b := fun e => by
  subst e
  exact hij (Value.int.inj (own_fld_inj F G))
theorem own_keep_ext {h h' : Heap} (K : Keep h h' []) : Ext h h' := ⟨K.1, fun a c q => K.2.1 a c q nin0⟩
theorem own_sta_keep {Z : State} {h h' : Heap} {C n d C' : String} {v : Value} {b : Addr} (F : Sta Z h C n d v) (K : Keep h h' [b]) (E : Exa Z h b C') : Sta Z h' C n d v := by
  obtain ⟨cf, i, k, f, st, cell, h1, h2, h3, h4, h5, h6, h7⟩ := F
  obtain ⟨cell', k', g1, g2, g3, g4, g5⟩ := E
  refine ⟨cf, i, k, f, st, cell, h1, h2, h3, h4, K.2.1 st cell h5 (ninS (fun q => ?_) nin0), h6, h7⟩
  subst q
  rw [h5] at g1; cases g1
  rw [h6] at g4; cases g4
theorem own_rem (x : Int32) (m : Int32) (n : Int) (hm : m.toInt = n) (hn : 0 < n) : 0 ≤ ((x &&& (2147483647 : Int32)) % m).toInt ∧ ((x &&& (2147483647 : Int32)) % m).toInt < n := by
  have e1 : (x &&& (2147483647 : Int32)).toInt = x.toInt % 2 ^ 31 := Jvm.Kit.i32_mask x 2147483647 (k := 31) (by decide) (by decide)
  have h0 : 0 ≤ (x &&& (2147483647 : Int32)).toInt := by rw [e1]; omega
  rw [(c_irem _ m n hm).1 h0]
  exact ⟨Int.emod_nonneg _ (by omega), Int.emod_lt_of_pos _ hn⟩
theorem own_casesN {k : Int32} (h0 : 0 ≤ k.toInt) (h1 : k.toInt < 7) : k = (0 : Int32) ∨ k = (1 : Int32) ∨ k = (2 : Int32) ∨ k = (3 : Int32) ∨ k = (4 : Int32) ∨ k = (5 : Int32) ∨ k = (6 : Int32) := by
  have h : k.toInt = 0 ∨ k.toInt = 1 ∨ k.toInt = 2 ∨ k.toInt = 3 ∨ k.toInt = 4 ∨ k.toInt = 5 ∨ k.toInt = 6 := by omega
  rcases h with h | h | h | h | h | h | h
  · exact Or.inl (Int32.toInt_inj.mp (by rw [h]; rfl))
  · exact Or.inr (Or.inl (Int32.toInt_inj.mp (by rw [h]; rfl)))
  · exact Or.inr (Or.inr (Or.inl (Int32.toInt_inj.mp (by rw [h]; rfl))))
  · exact Or.inr (Or.inr (Or.inr (Or.inl (Int32.toInt_inj.mp (by rw [h]; rfl)))))
  · exact Or.inr (Or.inr (Or.inr (Or.inr (Or.inl (Int32.toInt_inj.mp (by rw [h]; rfl))))))
  · exact Or.inr (Or.inr (Or.inr (Or.inr (Or.inr (Or.inl (Int32.toInt_inj.mp (by rw [h]; rfl)))))))
  · exact Or.inr (Or.inr (Or.inr (Or.inr (Or.inr (Or.inr ((Int32.toInt_inj.mp (by rw [h]; rfl))))))))
theorem own_b3 (x : Int32) : 0 ≤ (x &&& (3 : Int32)).toInt ∧ (x &&& (3 : Int32)).toInt < 4 := by
  have e1 : (x &&& (3 : Int32)).toInt = x.toInt % 2 ^ 2 := Jvm.Kit.i32_mask x 3 (k := 2) (by decide) (by decide)
  rw [e1]; omega
theorem own_getClass {p : Program} {l : Launch} {e : Env} {R : Room} {s : State} {m : MethodId} {args : Array Value} {below : List Frame} {meth : Method} {c : Code} {T : State} {locs : List Loc} {cells slots : Nat} {Z : State} {h : Heap} {a : Addr}
    (X : Stand p l e R s m args below meth c T locs cells slots) (hx : p.tables.exec = Jvm.exec) (hZ : Z.Warmed39 s.vm) {a0 : Array Value} {own C : String} {index : Nat} (hown : s.vm.findClass own = some m.cls)
    (w1 : (Jvm.Cond.methodLink own index ⟨"java/lang/Object", "getClass", "()Ljava/lang/Class;"⟩).before a0 Z = true) (w2 : (Jvm.Cond.declares ⟨"java/lang/Object", "getClass", "()Ljava/lang/Class;"⟩).before a0 Z = true) (w4 : (Jvm.Cond.selects C ⟨"java/lang/Object", "getClass", "()Ljava/lang/Class;"⟩ ⟨"java/lang/Object", "getClass", "()Ljava/lang/Class;"⟩).before a0 Z = true)
    (w5 : (Jvm.Cond.instanceMethod ⟨"java/lang/Object", "getClass", "()Ljava/lang/Class;"⟩).before a0 Z = true) (w6 : (Jvm.Cond.native ⟨"java/lang/Object", "getClass", "()Ljava/lang/Class;"⟩).before a0 Z = true) (eT : T.heap = h) (E : Exa Z h a C) {mr : Addr} (M : Mir Z C mr)
    {g : JFrame} (hg : g.method = m) (hsize : g.locals.size = c.maxLocals) {rest : List Value} (hs : g.stack = .ref a :: rest) (hd : decode c.code g.pc = .ok (.invokevirtual index, 3)) (hf : 1 ≤ R.frames) {W : Nat} (hW : 2 * g.monitorRoom + (rest.map fun v => v.category).sum ≤ W) (hl : W + (nativeFrameWords "java/lang/Object" "getClass" 1 + 11) ≤ R.locals) :
    ∃ T', Stand p l e R s m args below meth c T' locs cells slots ∧ T'.heap = h ∧ ∀ target, Steps p.tables e below (T'.setTop { g with pc := g.pc + 3, stack := .ref mr :: rest }) target → Steps p.tables e below (T.setTop g) target := by
  obtain ⟨cM, kM, hf1, hk1, hm1, -⟩ := M
  obtain ⟨cE, kE, hf2, -, hrec⟩ := isOf hZ eT E
  have hal := hZ.alike
  have hsM : s.vm.findClass C = some cM := (hal.findClass _ _).trans hf1
  have ec : cM = cE := Option.some.inj (hsM.symm.trans hf2)
  subst ec
  obtain ⟨kS, hkS, eS⟩ := hal.2.2 _ _ hk1
  have w4s : (Jvm.Cond.selects C ⟨"java/lang/Object", "getClass", "()Ljava/lang/Class;"⟩ ⟨"java/lang/Object", "getClass", "()Ljava/lang/Class;"⟩).before args s = true := mvT hZ w4
  obtain ⟨vm', X', st⟩ := X.getClassOf hx hown (mvT hZ w1) (mvT hZ w2) (notFace_of_selects w4s) w4s (mvT hZ w5) (mvT hZ w6) hsM hrec hkS (by rw [eS]; exact hm1) hg hsize hs hd hf (by omega)
  exact ⟨T.setVm vm', X', eT, st⟩
theorem d3_0 : decode jdk_37_method_8_code 0 = .ok (.aload_n 1, 1) := by decide +kernel
theorem d3_1 : decode jdk_37_method_8_code 1 = .ok (.astore_n 2, 1) := by decide +kernel
theorem d3_2 : decode jdk_37_method_8_code 2 = .ok (.aload_n 0, 1) := by decide +kernel
theorem d3_3 : decode jdk_37_method_8_code 3 = .ok (.astore_n 3, 1) := by decide +kernel
theorem d3_4 : decode jdk_37_method_8_code 4 = .ok (.aload_n 3, 1) := by decide +kernel
theorem d3_5 : decode jdk_37_method_8_code 5 = .ok (.invokevirtual 29, 3) := by decide +kernel
theorem d3_8 : decode jdk_37_method_8_code 8 = .ok (.aload_n 2, 1) := by decide +kernel
theorem d3_9 : decode jdk_37_method_8_code 9 = .ok (.invokevirtual 29, 3) := by decide +kernel
theorem d3_12 : decode jdk_37_method_8_code 12 = .ok (.if_acmp .eq 22, 3) := by decide +kernel
theorem d3_34 : decode jdk_37_method_8_code 34 = .ok (.aload_n 3, 1) := by decide +kernel
theorem d3_35 : decode jdk_37_method_8_code 35 = .ok (.getfield 7, 3) := by decide +kernel
theorem d3_38 : decode jdk_37_method_8_code 38 = .ok (.aload_n 2, 1) := by decide +kernel
theorem d3_39 : decode jdk_37_method_8_code 39 = .ok (.getfield 7, 3) := by decide +kernel
theorem d3_42 : decode jdk_37_method_8_code 42 = .ok (.isub, 1) := by decide +kernel
theorem d3_43 : decode jdk_37_method_8_code 43 = .ok (.ireturn, 1) := by decide +kernel
theorem pn_rmC : plainName "java/lang/Enum" = true := by first | (simp [plainName, overriddenIn]; done) | decide +kernel
theorem ef_rmC (m : MethodId) (a1 : Addr) (a2 : Addr) : entryFrame m #[(.ref a1), (.ref a2)] 4 = mkF m 0 #[.val (.ref a1), .val (.ref a2), .unset, .unset] [] := by first | (simp [entryFrame, mkF, argsToLocals, Value.category]; done) | rfl
def Q_rmC (Z : State) (a1 : Addr) (a2 : Addr) (o1 : Int32) (o2 : Int32) (r : Int32) (mr : Addr) (h0 : Heap) (n0 : Nat) (v : Option Value) (h : Heap) (L : List Loc) : Prop := v = some (.int r) ∧ Fr n0 L ∧ h = h0
set_option maxRecDepth 65536 in
set_option maxHeartbeats 40000000 in
theorem rmC (l : Launch) (Z : State) (a0 : Array Value) (hw : ∀ d ∈ tables_1, d.before a0 Z = true) (ws : List Jvm.Cond) (a1 : Addr) (a2 : Addr) (o1 : Int32) (o2 : Int32) (r : Int32) (mr : Addr) (h0 : Heap) (n0 : Nat) (Z0 : n0 ≤ h0.size) (E_a1 : Exa Z h0 a1 "com/example/nevermind/nevermind/reducer/NodeStatus") (E_a2 : Exa Z h0 a2 "com/example/nevermind/nevermind/reducer/NodeStatus") (O_a1 : Fld Z h0 a1 "java/lang/Enum" "ordinal" "I" (.int o1)) (O_a2 : Fld Z h0 a2 "java/lang/Enum" "ordinal" "I" (.int o2)) (M : Mir Z "com/example/nevermind/nevermind/reducer/NodeStatus" mr) (hret : (o1 - o2) = r) :
    MetFree l (⟨"java/lang/Enum", "compareTo", "(Ljava/lang/Enum;)I"⟩ : MethodName) (head1 (Jvm.Cond.code (⟨"java/lang/Enum", "compareTo", "(Ljava/lang/Enum;)I"⟩ : MethodName) jdk_37_method_8_code 4 (some .int) :: ws) ({ frames := 1, cells := 0, slots := 0, locals := 40 } : Room)) (fun a U => a = #[(.ref a1), (.ref a2)] ∧ Z.Warmed39 U.vm ∧ U.heap = h0) (fun _ _ _ _ _ => True) (fun _ U o U' => ∃ v L, o = .returned v ∧ Q_rmC Z a1 a2 o1 o2 r mr h0 n0 v U'.heap L ∧ FrameEnd U o U' L ({ frames := 1, cells := 0, slots := 0, locals := 40 } : Room).cells ({ frames := 1, cells := 0, slots := 0, locals := 40 } : Room).slots) := by
  refine MetFree.of_bodySF (plainFor_of_name pn_rmC) hisR ?_
  intro p e s m args below meth c s₁ Bd hml0 hP hK
  obtain ⟨rfl, hZ, hh⟩ := hP
  have hx := Bd.exec
  have hby := Bd.bytes
  have hml : c.maxLocals = 4 := hml0
  have hown : s.vm.findClass "java/lang/Enum" = some m.cls := findClass_of_methodNamed Bd.named
  have hnm := (name_of_methodNamed Bd.named Bd.method).1
  have X0 : Stand p l e ({ frames := 1, cells := 0, slots := 0, locals := 40 } : Room) s m #[(.ref a1), (.ref a2)] below meth c s₁ [] 0 0 := Stand.of_body Bd
  have e0 : s₁.heap = h0 := by rw [← hh, Bd.state]; rfl
  have N0 := Fr.nil n0
  have pre0 : ∀ t, Steps p.tables e below (s₁.setTop (mkF m 0 #[.val (.ref a1), .val (.ref a2), .unset, .unset] [])) t → Steps p.tables e below (s₁.setTop (entryFrame m #[(.ref a1), (.ref a2)] 4)) t := fun t k => castTop (ef_rmC m a1 a2) k
  obtain ⟨T1, X1, e1, st1⟩ := own_getClass X0 hx hZ hown (hw _ (List.mem_of_getElem? (i := 27) rfl)) (hw _ (List.mem_of_getElem? (i := 28) rfl)) (hw _ (List.mem_of_getElem? (i := 30) rfl)) (hw _ (List.mem_of_getElem? (i := 29) rfl)) (hw _ (List.mem_of_getElem? (i := 31) rfl)) e0 E_a1 M (g := (mkF m 5 #[.val (.ref a1), .val (.ref a2), .val (.ref a2), .val (.ref a1)] [(.ref a1)])) rfl (by rw [hml]; rfl) rfl (hb hby d3_5) (by decide) (W := 0) (by show 2 * 0 + _ ≤ _; exact Nat.le_of_eq rfl) (by decide)
  obtain ⟨T2, X2, e2, st2⟩ := own_getClass X1 hx hZ hown (hw _ (List.mem_of_getElem? (i := 27) rfl)) (hw _ (List.mem_of_getElem? (i := 28) rfl)) (hw _ (List.mem_of_getElem? (i := 30) rfl)) (hw _ (List.mem_of_getElem? (i := 29) rfl)) (hw _ (List.mem_of_getElem? (i := 31) rfl)) e1 E_a2 M (g := (mkF m 9 #[.val (.ref a1), .val (.ref a2), .val (.ref a2), .val (.ref a1)] [(.ref a2), (.ref mr)])) rfl (by rw [hml]; rfl) rfl (hb hby d3_9) (by decide) (W := 1) (by show 2 * 0 + _ ≤ _; exact Nat.le_of_eq rfl) (by decide)
  obtain ⟨T3, X3, e3, st3⟩ := getF X2 hx hZ hown (host := "") (Or.inl (hw _ (List.mem_of_getElem? (i := 33) rfl))) Via.refl e2 O_a1 (g := (mkF m 35 #[.val (.ref a1), .val (.ref a2), .val (.ref a2), .val (.ref a1)] [(.ref a1)])) rfl rfl (hb hby d3_35)
  obtain ⟨T4, X4, e4, st4⟩ := getF X3 hx hZ hown (host := "") (Or.inl (hw _ (List.mem_of_getElem? (i := 33) rfl))) Via.refl e3 O_a2 (g := (mkF m 39 #[.val (.ref a1), .val (.ref a2), .val (.ref a2), .val (.ref a1)] [(.ref a2), (.int o1)])) rfl rfl (hb hby d3_39)
  obtain ⟨fs, hr, hrun, hended, hW, hsame⟩ := X4.leave (v := some (.int (o1 - o2))) (fun h => by rw [Bd.returns] at h; cases h)
  refine ⟨_, _, pre0 _ ?_, hrun, hended, _, _, rfl, ?_, ⟨_, rfl⟩, hW, hsame.mono (by decide) (by decide)⟩
  · show Steps p.tables e below (s₁.setTop (mkF m 0 #[.val (.ref a1), .val (.ref a2), .unset, .unset] [])) _
    refine XS.aloadN X0.here hx rfl (hb hby d3_0) rfl rfl ?_
    show Steps p.tables e below (s₁.setTop (mkF m 1 #[.val (.ref a1), .val (.ref a2), .unset, .unset] [(.ref a2)])) _
    refine XS.astoreN X0.here hx rfl (hb hby d3_1) rfl rfl (l' := #[.val (.ref a1), .val (.ref a2), .val (.ref a2), .unset]) rfl ?_
    show Steps p.tables e below (s₁.setTop (mkF m 2 #[.val (.ref a1), .val (.ref a2), .val (.ref a2), .unset] [])) _
    refine XS.aloadN X0.here hx rfl (hb hby d3_2) rfl rfl ?_
    show Steps p.tables e below (s₁.setTop (mkF m 3 #[.val (.ref a1), .val (.ref a2), .val (.ref a2), .unset] [(.ref a1)])) _
    refine XS.astoreN X0.here hx rfl (hb hby d3_3) rfl rfl (l' := #[.val (.ref a1), .val (.ref a2), .val (.ref a2), .val (.ref a1)]) rfl ?_
    show Steps p.tables e below (s₁.setTop (mkF m 4 #[.val (.ref a1), .val (.ref a2), .val (.ref a2), .val (.ref a1)] [])) _
    refine XS.aloadN X0.here hx rfl (hb hby d3_4) rfl rfl ?_
    show Steps p.tables e below (s₁.setTop (mkF m 5 #[.val (.ref a1), .val (.ref a2), .val (.ref a2), .val (.ref a1)] [(.ref a1)])) _
    refine st1 _ ?_
    show Steps p.tables e below (T1.setTop (mkF m 8 #[.val (.ref a1), .val (.ref a2), .val (.ref a2), .val (.ref a1)] [(.ref mr)])) _
    refine XS.aloadN X1.here hx rfl (hb hby d3_8) rfl rfl ?_
    show Steps p.tables e below (T1.setTop (mkF m 9 #[.val (.ref a1), .val (.ref a2), .val (.ref a2), .val (.ref a1)] [(.ref a2), (.ref mr)])) _
    refine st2 _ ?_
    show Steps p.tables e below (T2.setTop (mkF m 12 #[.val (.ref a1), .val (.ref a2), .val (.ref a2), .val (.ref a1)] [(.ref mr), (.ref mr)])) _
    refine Jvm.RoadKit.acmp (g := (mkF m 12 #[.val (.ref a1), .val (.ref a2), .val (.ref a2), .val (.ref a1)] [(.ref mr), (.ref mr)])) X2 hx rfl rfl rfl (pc0 := 12) (pc' := 34) (same := true) rfl (hb hby d3_12) rfl (decide_eq_true rfl) (by decide) (by decide) ?_
    show Steps p.tables e below (T2.setTop (mkF m 34 #[.val (.ref a1), .val (.ref a2), .val (.ref a2), .val (.ref a1)] [])) _
    refine XS.aloadN X2.here hx rfl (hb hby d3_34) rfl rfl ?_
    show Steps p.tables e below (T2.setTop (mkF m 35 #[.val (.ref a1), .val (.ref a2), .val (.ref a2), .val (.ref a1)] [(.ref a1)])) _
    refine st3 _ ?_
    show Steps p.tables e below (T3.setTop (mkF m 38 #[.val (.ref a1), .val (.ref a2), .val (.ref a2), .val (.ref a1)] [(.int o1)])) _
    refine XS.aloadN X3.here hx rfl (hb hby d3_38) rfl rfl ?_
    show Steps p.tables e below (T3.setTop (mkF m 39 #[.val (.ref a1), .val (.ref a2), .val (.ref a2), .val (.ref a1)] [(.ref a2), (.int o1)])) _
    refine st4 _ ?_
    show Steps p.tables e below (T4.setTop (mkF m 42 #[.val (.ref a1), .val (.ref a2), .val (.ref a2), .val (.ref a1)] [(.int o2), (.int o1)])) _
    refine XS.isub X4.here hx rfl (hb hby d3_42) rfl ?_
    show Steps p.tables e below (T4.setTop (mkF m 43 #[.val (.ref a1), .val (.ref a2), .val (.ref a2), .val (.ref a1)] [(.int (o1 - o2))])) _
    exact retI X4 hx Bd.returns (hb hby d3_43) hr
  · show Q_rmC Z a1 a2 o1 o2 r mr h0 n0 _ T4.heap _
    rw [e4]
    exact ⟨by rw [← hret], N0, rfl⟩
theorem d2_0 : decode prog_12_method_4_code 0 = .ok (.aload_n 0, 1) := by decide +kernel
theorem d2_1 : decode prog_12_method_4_code 1 = .ok (.getstatic 16, 3) := by decide +kernel
theorem d2_4 : decode prog_12_method_4_code 4 = .ok (.invokevirtual 44, 3) := by decide +kernel
theorem d2_7 : decode prog_12_method_4_code 7 = .ok (.ifCond .lt 7, 3) := by decide +kernel
theorem d2_14 : decode prog_12_method_4_code 14 = .ok (.iconst 0, 1) := by decide +kernel
theorem d2_15 : decode prog_12_method_4_code 15 = .ok (.ireturn, 1) := by decide +kernel
theorem pn_rmF0 : plainName "com/example/nevermind/nevermind/reducer/NodeStatus" = true := by first | (simp [plainName, overriddenIn]; done) | decide +kernel
theorem pd_rmF0_0 : parseMethodDescriptor "(Ljava/lang/Enum;)I" = some ⟨[(.object "java/lang/Enum")], some .int⟩ := by decide +kernel
theorem ef_rmF0 (m : MethodId) (a1 : Addr) : entryFrame m #[(.ref a1)] 1 = mkF m 0 #[.val (.ref a1)] [] := by first | (simp [entryFrame, mkF, argsToLocals, Value.category]; done) | rfl
def Q_rmF0 (Z : State) (a1 : Addr) (wp : Addr) (mr : Addr) (h0 : Heap) (n0 : Nat) (v : Option Value) (h : Heap) (L : List Loc) : Prop := v = some (.int (0 : Int32)) ∧ Fr n0 L ∧ h = h0
set_option maxRecDepth 65536 in
set_option maxHeartbeats 40000000 in
theorem rmF0 (l : Launch) (Z : State) (a0 : Array Value) (hw : ∀ d ∈ tables_1, d.before a0 Z = true) (ws : List Jvm.Cond) (a1 : Addr) (wp : Addr) (mr : Addr) (h0 : Heap) (n0 : Nat) (Z0 : n0 ≤ h0.size) (E_a1 : Exa Z h0 a1 "com/example/nevermind/nevermind/reducer/NodeStatus") (E_wp : Exa Z h0 wp "com/example/nevermind/nevermind/reducer/NodeStatus") (O_a1 : Fld Z h0 a1 "java/lang/Enum" "ordinal" "I" (.int (0 : Int32))) (O_wp : Fld Z h0 wp "java/lang/Enum" "ordinal" "I" (.int (4 : Int32))) (M : Mir Z "com/example/nevermind/nevermind/reducer/NodeStatus" mr) (S_p : Sta Z h0 "com/example/nevermind/nevermind/reducer/NodeStatus" "SUCCEEDED" "Lcom/example/nevermind/nevermind/reducer/NodeStatus;" (.ref wp)) :
    MetFree l (⟨"com/example/nevermind/nevermind/reducer/NodeStatus", "isFinal", "()Z"⟩ : MethodName) (head1 (Jvm.Cond.code (⟨"com/example/nevermind/nevermind/reducer/NodeStatus", "isFinal", "()Z"⟩ : MethodName) prog_12_method_4_code 1 (some .boolean) :: ws) ({ frames := 2, cells := 0, slots := 0, locals := 60 } : Room)) (fun a U => a = #[(.ref a1)] ∧ Z.Warmed39 U.vm ∧ U.heap = h0) (fun _ _ _ _ _ => True) (fun _ U o U' => ∃ v L, o = .returned v ∧ Q_rmF0 Z a1 wp mr h0 n0 v U'.heap L ∧ FrameEnd U o U' L ({ frames := 2, cells := 0, slots := 0, locals := 60 } : Room).cells ({ frames := 2, cells := 0, slots := 0, locals := 60 } : Room).slots) := by
  refine MetFree.of_bodySF (plainFor_of_name pn_rmF0) hisR ?_
  intro p e s m args below meth c s₁ Bd hml0 hP hK
  obtain ⟨rfl, hZ, hh⟩ := hP
  have hx := Bd.exec
  have hby := Bd.bytes
  have hml : c.maxLocals = 1 := hml0
  have hown : s.vm.findClass "com/example/nevermind/nevermind/reducer/NodeStatus" = some m.cls := findClass_of_methodNamed Bd.named
  have hnm := (name_of_methodNamed Bd.named Bd.method).1
  have X0 : Stand p l e ({ frames := 2, cells := 0, slots := 0, locals := 60 } : Room) s m #[(.ref a1)] below meth c s₁ [] 0 0 := Stand.of_body Bd
  have e0 : s₁.heap = h0 := by rw [← hh, Bd.state]; rfl
  have N0 := Fr.nil n0
  have pre0 : ∀ t, Steps p.tables e below (s₁.setTop (mkF m 0 #[.val (.ref a1)] [])) t → Steps p.tables e below (s₁.setTop (entryFrame m #[(.ref a1)] 1)) t := fun t k => castTop (ef_rmF0 m a1) k
  obtain ⟨T1, X1, e1, st1⟩ := getS2 X0 hx hZ hown (host := "") (Or.inl (hw _ (List.mem_of_getElem? (i := 19) rfl))) Via.refl e0 S_p (g := (mkF m 1 #[.val (.ref a1)] [(.ref a1)])) rfl (hb hby d2_1)
  obtain ⟨cq2, kq2, q2a, q2b, q2c⟩ := isOf hZ e1 E_a1
  obtain ⟨_, _, ⟨T2, L2, k2, n2⟩, -, X2, ⟨Lc2, hQ2, l2, y2, z2⟩, st2⟩ := X1.virtualBackUp hx (x := (⟨"com/example/nevermind/nevermind/reducer/NodeStatus", "compareTo", "(Ljava/lang/Enum;)I"⟩ : MethodName)) (y := (⟨"java/lang/Enum", "compareTo", "(Ljava/lang/Enum;)I"⟩ : MethodName)) (owner := "java/lang/Enum") hown (mvT hZ (hw _ (List.mem_of_getElem? (i := 20) rfl))) (mvT hZ (hw _ (List.mem_of_getElem? (i := 21) rfl))) (mvT hZ (hw _ (List.mem_of_getElem? (i := 22) rfl))) (by decide) (mvT hZ (hw _ (List.mem_of_getElem? (i := 24) rfl))) (mvT hZ (hw _ (List.mem_of_getElem? (i := 23) rfl))) (backOf (W := 0) (rmC l Z a0 hw [] a1 wp (0 : Int32) (4 : Int32) (-4 : Int32) mr h0 n0 Z0 E_a1 E_wp O_a1 O_wp M (by decide)) hZ (hw _ (List.mem_of_getElem? (i := 26) rfl)) (hw _ (List.mem_of_getElem? (i := 25) rfl)) (by decide) (by decide)) q2a q2c (g := (mkF m 4 #[.val (.ref a1)] [(.ref wp), (.ref a1)])) rfl (by rw [hml]; rfl) (Steps.refl _) (argsL := [(.ref wp)]) (rest := []) (lenOf pd_rmF0_0 rfl) rfl (by show 2 * 0 + _ ≤ _; exact Nat.le_of_eq rfl) (hb hby d2_4) (fun _ _ => ⟨rfl, e1, (by decide : 0 + 0 ≤ _), (by decide : 0 + 0 ≤ _)⟩)
  dsimp only [Pt.U, Pt.locs, Pt.cells, Pt.slots] at X2 l2 y2 z2 st2 hQ2
  subst l2 y2 z2
  obtain ⟨rfl, N2q, e2⟩ := hQ2
  have N2 := Fr.app N0 N2q
  obtain ⟨fs, hr, hrun, hended, hW, hsame⟩ := X2.leave (v := some (.int (0 : Int32))) (fun h => by rw [Bd.returns] at h; cases h)
  refine ⟨_, _, pre0 _ ?_, hrun, hended, _, _, rfl, ?_, ⟨_, rfl⟩, hW, hsame.mono (by decide) (by decide)⟩
  · show Steps p.tables e below (s₁.setTop (mkF m 0 #[.val (.ref a1)] [])) _
    refine XS.aloadN X0.here hx rfl (hb hby d2_0) rfl rfl ?_
    show Steps p.tables e below (s₁.setTop (mkF m 1 #[.val (.ref a1)] [(.ref a1)])) _
    refine st1 _ ?_
    show Steps p.tables e below (T1.setTop (mkF m 4 #[.val (.ref a1)] [(.ref wp), (.ref a1)])) _
    refine st2.trans ?_
    show Steps p.tables e below (T2.setTop (mkF m 7 #[.val (.ref a1)] [(.int (-4 : Int32))])) _
    refine XS.ifYes X2.here hx rfl (pc0 := 7) (pc' := 14) rfl (hb hby d2_7) rfl ((if0 _ _).trans (tlt (by decide : (-4 : Int32) < (0 : Int32))).1) (by decide) (by decide) ?_
    show Steps p.tables e below (T2.setTop (mkF m 14 #[.val (.ref a1)] [])) _
    refine XS.iconst X2.here hx rfl (hb hby d2_14) ?_
    show Steps p.tables e below (T2.setTop (mkF m 15 #[.val (.ref a1)] [(.int (0 : Int32))])) _
    exact retN X2 hx (t := .boolean) Bd.returns (by simp) (hb hby d2_15) hr
  · show Q_rmF0 Z a1 wp mr h0 n0 _ T2.heap _
    rw [e2]
    exact ⟨rfl, N2, rfl⟩
theorem pn_rmF1 : plainName "com/example/nevermind/nevermind/reducer/NodeStatus" = true := by first | (simp [plainName, overriddenIn]; done) | decide +kernel
theorem pd_rmF1_0 : parseMethodDescriptor "(Ljava/lang/Enum;)I" = some ⟨[(.object "java/lang/Enum")], some .int⟩ := by decide +kernel
theorem ef_rmF1 (m : MethodId) (a1 : Addr) : entryFrame m #[(.ref a1)] 1 = mkF m 0 #[.val (.ref a1)] [] := by first | (simp [entryFrame, mkF, argsToLocals, Value.category]; done) | rfl
def Q_rmF1 (Z : State) (a1 : Addr) (wp : Addr) (mr : Addr) (h0 : Heap) (n0 : Nat) (v : Option Value) (h : Heap) (L : List Loc) : Prop := v = some (.int (0 : Int32)) ∧ Fr n0 L ∧ h = h0
set_option maxRecDepth 65536 in
set_option maxHeartbeats 40000000 in
theorem rmF1 (l : Launch) (Z : State) (a0 : Array Value) (hw : ∀ d ∈ tables_1, d.before a0 Z = true) (ws : List Jvm.Cond) (a1 : Addr) (wp : Addr) (mr : Addr) (h0 : Heap) (n0 : Nat) (Z0 : n0 ≤ h0.size) (E_a1 : Exa Z h0 a1 "com/example/nevermind/nevermind/reducer/NodeStatus") (E_wp : Exa Z h0 wp "com/example/nevermind/nevermind/reducer/NodeStatus") (O_a1 : Fld Z h0 a1 "java/lang/Enum" "ordinal" "I" (.int (1 : Int32))) (O_wp : Fld Z h0 wp "java/lang/Enum" "ordinal" "I" (.int (4 : Int32))) (M : Mir Z "com/example/nevermind/nevermind/reducer/NodeStatus" mr) (S_p : Sta Z h0 "com/example/nevermind/nevermind/reducer/NodeStatus" "SUCCEEDED" "Lcom/example/nevermind/nevermind/reducer/NodeStatus;" (.ref wp)) :
    MetFree l (⟨"com/example/nevermind/nevermind/reducer/NodeStatus", "isFinal", "()Z"⟩ : MethodName) (head1 (Jvm.Cond.code (⟨"com/example/nevermind/nevermind/reducer/NodeStatus", "isFinal", "()Z"⟩ : MethodName) prog_12_method_4_code 1 (some .boolean) :: ws) ({ frames := 2, cells := 0, slots := 0, locals := 60 } : Room)) (fun a U => a = #[(.ref a1)] ∧ Z.Warmed39 U.vm ∧ U.heap = h0) (fun _ _ _ _ _ => True) (fun _ U o U' => ∃ v L, o = .returned v ∧ Q_rmF1 Z a1 wp mr h0 n0 v U'.heap L ∧ FrameEnd U o U' L ({ frames := 2, cells := 0, slots := 0, locals := 60 } : Room).cells ({ frames := 2, cells := 0, slots := 0, locals := 60 } : Room).slots) := by
  refine MetFree.of_bodySF (plainFor_of_name pn_rmF1) hisR ?_
  intro p e s m args below meth c s₁ Bd hml0 hP hK
  obtain ⟨rfl, hZ, hh⟩ := hP
  have hx := Bd.exec
  have hby := Bd.bytes
  have hml : c.maxLocals = 1 := hml0
  have hown : s.vm.findClass "com/example/nevermind/nevermind/reducer/NodeStatus" = some m.cls := findClass_of_methodNamed Bd.named
  have hnm := (name_of_methodNamed Bd.named Bd.method).1
  have X0 : Stand p l e ({ frames := 2, cells := 0, slots := 0, locals := 60 } : Room) s m #[(.ref a1)] below meth c s₁ [] 0 0 := Stand.of_body Bd
  have e0 : s₁.heap = h0 := by rw [← hh, Bd.state]; rfl
  have N0 := Fr.nil n0
  have pre0 : ∀ t, Steps p.tables e below (s₁.setTop (mkF m 0 #[.val (.ref a1)] [])) t → Steps p.tables e below (s₁.setTop (entryFrame m #[(.ref a1)] 1)) t := fun t k => castTop (ef_rmF1 m a1) k
  obtain ⟨T1, X1, e1, st1⟩ := getS2 X0 hx hZ hown (host := "") (Or.inl (hw _ (List.mem_of_getElem? (i := 19) rfl))) Via.refl e0 S_p (g := (mkF m 1 #[.val (.ref a1)] [(.ref a1)])) rfl (hb hby d2_1)
  obtain ⟨cq2, kq2, q2a, q2b, q2c⟩ := isOf hZ e1 E_a1
  obtain ⟨_, _, ⟨T2, L2, k2, n2⟩, -, X2, ⟨Lc2, hQ2, l2, y2, z2⟩, st2⟩ := X1.virtualBackUp hx (x := (⟨"com/example/nevermind/nevermind/reducer/NodeStatus", "compareTo", "(Ljava/lang/Enum;)I"⟩ : MethodName)) (y := (⟨"java/lang/Enum", "compareTo", "(Ljava/lang/Enum;)I"⟩ : MethodName)) (owner := "java/lang/Enum") hown (mvT hZ (hw _ (List.mem_of_getElem? (i := 20) rfl))) (mvT hZ (hw _ (List.mem_of_getElem? (i := 21) rfl))) (mvT hZ (hw _ (List.mem_of_getElem? (i := 22) rfl))) (by decide) (mvT hZ (hw _ (List.mem_of_getElem? (i := 24) rfl))) (mvT hZ (hw _ (List.mem_of_getElem? (i := 23) rfl))) (backOf (W := 0) (rmC l Z a0 hw [] a1 wp (1 : Int32) (4 : Int32) (-3 : Int32) mr h0 n0 Z0 E_a1 E_wp O_a1 O_wp M (by decide)) hZ (hw _ (List.mem_of_getElem? (i := 26) rfl)) (hw _ (List.mem_of_getElem? (i := 25) rfl)) (by decide) (by decide)) q2a q2c (g := (mkF m 4 #[.val (.ref a1)] [(.ref wp), (.ref a1)])) rfl (by rw [hml]; rfl) (Steps.refl _) (argsL := [(.ref wp)]) (rest := []) (lenOf pd_rmF1_0 rfl) rfl (by show 2 * 0 + _ ≤ _; exact Nat.le_of_eq rfl) (hb hby d2_4) (fun _ _ => ⟨rfl, e1, (by decide : 0 + 0 ≤ _), (by decide : 0 + 0 ≤ _)⟩)
  dsimp only [Pt.U, Pt.locs, Pt.cells, Pt.slots] at X2 l2 y2 z2 st2 hQ2
  subst l2 y2 z2
  obtain ⟨rfl, N2q, e2⟩ := hQ2
  have N2 := Fr.app N0 N2q
  obtain ⟨fs, hr, hrun, hended, hW, hsame⟩ := X2.leave (v := some (.int (0 : Int32))) (fun h => by rw [Bd.returns] at h; cases h)
  refine ⟨_, _, pre0 _ ?_, hrun, hended, _, _, rfl, ?_, ⟨_, rfl⟩, hW, hsame.mono (by decide) (by decide)⟩
  · show Steps p.tables e below (s₁.setTop (mkF m 0 #[.val (.ref a1)] [])) _
    refine XS.aloadN X0.here hx rfl (hb hby d2_0) rfl rfl ?_
    show Steps p.tables e below (s₁.setTop (mkF m 1 #[.val (.ref a1)] [(.ref a1)])) _
    refine st1 _ ?_
    show Steps p.tables e below (T1.setTop (mkF m 4 #[.val (.ref a1)] [(.ref wp), (.ref a1)])) _
    refine st2.trans ?_
    show Steps p.tables e below (T2.setTop (mkF m 7 #[.val (.ref a1)] [(.int (-3 : Int32))])) _
    refine XS.ifYes X2.here hx rfl (pc0 := 7) (pc' := 14) rfl (hb hby d2_7) rfl ((if0 _ _).trans (tlt (by decide : (-3 : Int32) < (0 : Int32))).1) (by decide) (by decide) ?_
    show Steps p.tables e below (T2.setTop (mkF m 14 #[.val (.ref a1)] [])) _
    refine XS.iconst X2.here hx rfl (hb hby d2_14) ?_
    show Steps p.tables e below (T2.setTop (mkF m 15 #[.val (.ref a1)] [(.int (0 : Int32))])) _
    exact retN X2 hx (t := .boolean) Bd.returns (by simp) (hb hby d2_15) hr
  · show Q_rmF1 Z a1 wp mr h0 n0 _ T2.heap _
    rw [e2]
    exact ⟨rfl, N2, rfl⟩
theorem pn_rmF2 : plainName "com/example/nevermind/nevermind/reducer/NodeStatus" = true := by first | (simp [plainName, overriddenIn]; done) | decide +kernel
theorem pd_rmF2_0 : parseMethodDescriptor "(Ljava/lang/Enum;)I" = some ⟨[(.object "java/lang/Enum")], some .int⟩ := by decide +kernel
theorem ef_rmF2 (m : MethodId) (a1 : Addr) : entryFrame m #[(.ref a1)] 1 = mkF m 0 #[.val (.ref a1)] [] := by first | (simp [entryFrame, mkF, argsToLocals, Value.category]; done) | rfl
def Q_rmF2 (Z : State) (a1 : Addr) (wp : Addr) (mr : Addr) (h0 : Heap) (n0 : Nat) (v : Option Value) (h : Heap) (L : List Loc) : Prop := v = some (.int (0 : Int32)) ∧ Fr n0 L ∧ h = h0
set_option maxRecDepth 65536 in
set_option maxHeartbeats 40000000 in
theorem rmF2 (l : Launch) (Z : State) (a0 : Array Value) (hw : ∀ d ∈ tables_1, d.before a0 Z = true) (ws : List Jvm.Cond) (a1 : Addr) (wp : Addr) (mr : Addr) (h0 : Heap) (n0 : Nat) (Z0 : n0 ≤ h0.size) (E_a1 : Exa Z h0 a1 "com/example/nevermind/nevermind/reducer/NodeStatus") (E_wp : Exa Z h0 wp "com/example/nevermind/nevermind/reducer/NodeStatus") (O_a1 : Fld Z h0 a1 "java/lang/Enum" "ordinal" "I" (.int (2 : Int32))) (O_wp : Fld Z h0 wp "java/lang/Enum" "ordinal" "I" (.int (4 : Int32))) (M : Mir Z "com/example/nevermind/nevermind/reducer/NodeStatus" mr) (S_p : Sta Z h0 "com/example/nevermind/nevermind/reducer/NodeStatus" "SUCCEEDED" "Lcom/example/nevermind/nevermind/reducer/NodeStatus;" (.ref wp)) :
    MetFree l (⟨"com/example/nevermind/nevermind/reducer/NodeStatus", "isFinal", "()Z"⟩ : MethodName) (head1 (Jvm.Cond.code (⟨"com/example/nevermind/nevermind/reducer/NodeStatus", "isFinal", "()Z"⟩ : MethodName) prog_12_method_4_code 1 (some .boolean) :: ws) ({ frames := 2, cells := 0, slots := 0, locals := 60 } : Room)) (fun a U => a = #[(.ref a1)] ∧ Z.Warmed39 U.vm ∧ U.heap = h0) (fun _ _ _ _ _ => True) (fun _ U o U' => ∃ v L, o = .returned v ∧ Q_rmF2 Z a1 wp mr h0 n0 v U'.heap L ∧ FrameEnd U o U' L ({ frames := 2, cells := 0, slots := 0, locals := 60 } : Room).cells ({ frames := 2, cells := 0, slots := 0, locals := 60 } : Room).slots) := by
  refine MetFree.of_bodySF (plainFor_of_name pn_rmF2) hisR ?_
  intro p e s m args below meth c s₁ Bd hml0 hP hK
  obtain ⟨rfl, hZ, hh⟩ := hP
  have hx := Bd.exec
  have hby := Bd.bytes
  have hml : c.maxLocals = 1 := hml0
  have hown : s.vm.findClass "com/example/nevermind/nevermind/reducer/NodeStatus" = some m.cls := findClass_of_methodNamed Bd.named
  have hnm := (name_of_methodNamed Bd.named Bd.method).1
  have X0 : Stand p l e ({ frames := 2, cells := 0, slots := 0, locals := 60 } : Room) s m #[(.ref a1)] below meth c s₁ [] 0 0 := Stand.of_body Bd
  have e0 : s₁.heap = h0 := by rw [← hh, Bd.state]; rfl
  have N0 := Fr.nil n0
  have pre0 : ∀ t, Steps p.tables e below (s₁.setTop (mkF m 0 #[.val (.ref a1)] [])) t → Steps p.tables e below (s₁.setTop (entryFrame m #[(.ref a1)] 1)) t := fun t k => castTop (ef_rmF2 m a1) k
  obtain ⟨T1, X1, e1, st1⟩ := getS2 X0 hx hZ hown (host := "") (Or.inl (hw _ (List.mem_of_getElem? (i := 19) rfl))) Via.refl e0 S_p (g := (mkF m 1 #[.val (.ref a1)] [(.ref a1)])) rfl (hb hby d2_1)
  obtain ⟨cq2, kq2, q2a, q2b, q2c⟩ := isOf hZ e1 E_a1
  obtain ⟨_, _, ⟨T2, L2, k2, n2⟩, -, X2, ⟨Lc2, hQ2, l2, y2, z2⟩, st2⟩ := X1.virtualBackUp hx (x := (⟨"com/example/nevermind/nevermind/reducer/NodeStatus", "compareTo", "(Ljava/lang/Enum;)I"⟩ : MethodName)) (y := (⟨"java/lang/Enum", "compareTo", "(Ljava/lang/Enum;)I"⟩ : MethodName)) (owner := "java/lang/Enum") hown (mvT hZ (hw _ (List.mem_of_getElem? (i := 20) rfl))) (mvT hZ (hw _ (List.mem_of_getElem? (i := 21) rfl))) (mvT hZ (hw _ (List.mem_of_getElem? (i := 22) rfl))) (by decide) (mvT hZ (hw _ (List.mem_of_getElem? (i := 24) rfl))) (mvT hZ (hw _ (List.mem_of_getElem? (i := 23) rfl))) (backOf (W := 0) (rmC l Z a0 hw [] a1 wp (2 : Int32) (4 : Int32) (-2 : Int32) mr h0 n0 Z0 E_a1 E_wp O_a1 O_wp M (by decide)) hZ (hw _ (List.mem_of_getElem? (i := 26) rfl)) (hw _ (List.mem_of_getElem? (i := 25) rfl)) (by decide) (by decide)) q2a q2c (g := (mkF m 4 #[.val (.ref a1)] [(.ref wp), (.ref a1)])) rfl (by rw [hml]; rfl) (Steps.refl _) (argsL := [(.ref wp)]) (rest := []) (lenOf pd_rmF2_0 rfl) rfl (by show 2 * 0 + _ ≤ _; exact Nat.le_of_eq rfl) (hb hby d2_4) (fun _ _ => ⟨rfl, e1, (by decide : 0 + 0 ≤ _), (by decide : 0 + 0 ≤ _)⟩)
  dsimp only [Pt.U, Pt.locs, Pt.cells, Pt.slots] at X2 l2 y2 z2 st2 hQ2
  subst l2 y2 z2
  obtain ⟨rfl, N2q, e2⟩ := hQ2
  have N2 := Fr.app N0 N2q
  obtain ⟨fs, hr, hrun, hended, hW, hsame⟩ := X2.leave (v := some (.int (0 : Int32))) (fun h => by rw [Bd.returns] at h; cases h)
  refine ⟨_, _, pre0 _ ?_, hrun, hended, _, _, rfl, ?_, ⟨_, rfl⟩, hW, hsame.mono (by decide) (by decide)⟩
  · show Steps p.tables e below (s₁.setTop (mkF m 0 #[.val (.ref a1)] [])) _
    refine XS.aloadN X0.here hx rfl (hb hby d2_0) rfl rfl ?_
    show Steps p.tables e below (s₁.setTop (mkF m 1 #[.val (.ref a1)] [(.ref a1)])) _
    refine st1 _ ?_
    show Steps p.tables e below (T1.setTop (mkF m 4 #[.val (.ref a1)] [(.ref wp), (.ref a1)])) _
    refine st2.trans ?_
    show Steps p.tables e below (T2.setTop (mkF m 7 #[.val (.ref a1)] [(.int (-2 : Int32))])) _
    refine XS.ifYes X2.here hx rfl (pc0 := 7) (pc' := 14) rfl (hb hby d2_7) rfl ((if0 _ _).trans (tlt (by decide : (-2 : Int32) < (0 : Int32))).1) (by decide) (by decide) ?_
    show Steps p.tables e below (T2.setTop (mkF m 14 #[.val (.ref a1)] [])) _
    refine XS.iconst X2.here hx rfl (hb hby d2_14) ?_
    show Steps p.tables e below (T2.setTop (mkF m 15 #[.val (.ref a1)] [(.int (0 : Int32))])) _
    exact retN X2 hx (t := .boolean) Bd.returns (by simp) (hb hby d2_15) hr
  · show Q_rmF2 Z a1 wp mr h0 n0 _ T2.heap _
    rw [e2]
    exact ⟨rfl, N2, rfl⟩
theorem pn_rmF3 : plainName "com/example/nevermind/nevermind/reducer/NodeStatus" = true := by first | (simp [plainName, overriddenIn]; done) | decide +kernel
theorem pd_rmF3_0 : parseMethodDescriptor "(Ljava/lang/Enum;)I" = some ⟨[(.object "java/lang/Enum")], some .int⟩ := by decide +kernel
theorem ef_rmF3 (m : MethodId) (a1 : Addr) : entryFrame m #[(.ref a1)] 1 = mkF m 0 #[.val (.ref a1)] [] := by first | (simp [entryFrame, mkF, argsToLocals, Value.category]; done) | rfl
def Q_rmF3 (Z : State) (a1 : Addr) (wp : Addr) (mr : Addr) (h0 : Heap) (n0 : Nat) (v : Option Value) (h : Heap) (L : List Loc) : Prop := v = some (.int (0 : Int32)) ∧ Fr n0 L ∧ h = h0
set_option maxRecDepth 65536 in
set_option maxHeartbeats 40000000 in
theorem rmF3 (l : Launch) (Z : State) (a0 : Array Value) (hw : ∀ d ∈ tables_1, d.before a0 Z = true) (ws : List Jvm.Cond) (a1 : Addr) (wp : Addr) (mr : Addr) (h0 : Heap) (n0 : Nat) (Z0 : n0 ≤ h0.size) (E_a1 : Exa Z h0 a1 "com/example/nevermind/nevermind/reducer/NodeStatus") (E_wp : Exa Z h0 wp "com/example/nevermind/nevermind/reducer/NodeStatus") (O_a1 : Fld Z h0 a1 "java/lang/Enum" "ordinal" "I" (.int (3 : Int32))) (O_wp : Fld Z h0 wp "java/lang/Enum" "ordinal" "I" (.int (4 : Int32))) (M : Mir Z "com/example/nevermind/nevermind/reducer/NodeStatus" mr) (S_p : Sta Z h0 "com/example/nevermind/nevermind/reducer/NodeStatus" "SUCCEEDED" "Lcom/example/nevermind/nevermind/reducer/NodeStatus;" (.ref wp)) :
    MetFree l (⟨"com/example/nevermind/nevermind/reducer/NodeStatus", "isFinal", "()Z"⟩ : MethodName) (head1 (Jvm.Cond.code (⟨"com/example/nevermind/nevermind/reducer/NodeStatus", "isFinal", "()Z"⟩ : MethodName) prog_12_method_4_code 1 (some .boolean) :: ws) ({ frames := 2, cells := 0, slots := 0, locals := 60 } : Room)) (fun a U => a = #[(.ref a1)] ∧ Z.Warmed39 U.vm ∧ U.heap = h0) (fun _ _ _ _ _ => True) (fun _ U o U' => ∃ v L, o = .returned v ∧ Q_rmF3 Z a1 wp mr h0 n0 v U'.heap L ∧ FrameEnd U o U' L ({ frames := 2, cells := 0, slots := 0, locals := 60 } : Room).cells ({ frames := 2, cells := 0, slots := 0, locals := 60 } : Room).slots) := by
  refine MetFree.of_bodySF (plainFor_of_name pn_rmF3) hisR ?_
  intro p e s m args below meth c s₁ Bd hml0 hP hK
  obtain ⟨rfl, hZ, hh⟩ := hP
  have hx := Bd.exec
  have hby := Bd.bytes
  have hml : c.maxLocals = 1 := hml0
  have hown : s.vm.findClass "com/example/nevermind/nevermind/reducer/NodeStatus" = some m.cls := findClass_of_methodNamed Bd.named
  have hnm := (name_of_methodNamed Bd.named Bd.method).1
  have X0 : Stand p l e ({ frames := 2, cells := 0, slots := 0, locals := 60 } : Room) s m #[(.ref a1)] below meth c s₁ [] 0 0 := Stand.of_body Bd
  have e0 : s₁.heap = h0 := by rw [← hh, Bd.state]; rfl
  have N0 := Fr.nil n0
  have pre0 : ∀ t, Steps p.tables e below (s₁.setTop (mkF m 0 #[.val (.ref a1)] [])) t → Steps p.tables e below (s₁.setTop (entryFrame m #[(.ref a1)] 1)) t := fun t k => castTop (ef_rmF3 m a1) k
  obtain ⟨T1, X1, e1, st1⟩ := getS2 X0 hx hZ hown (host := "") (Or.inl (hw _ (List.mem_of_getElem? (i := 19) rfl))) Via.refl e0 S_p (g := (mkF m 1 #[.val (.ref a1)] [(.ref a1)])) rfl (hb hby d2_1)
  obtain ⟨cq2, kq2, q2a, q2b, q2c⟩ := isOf hZ e1 E_a1
  obtain ⟨_, _, ⟨T2, L2, k2, n2⟩, -, X2, ⟨Lc2, hQ2, l2, y2, z2⟩, st2⟩ := X1.virtualBackUp hx (x := (⟨"com/example/nevermind/nevermind/reducer/NodeStatus", "compareTo", "(Ljava/lang/Enum;)I"⟩ : MethodName)) (y := (⟨"java/lang/Enum", "compareTo", "(Ljava/lang/Enum;)I"⟩ : MethodName)) (owner := "java/lang/Enum") hown (mvT hZ (hw _ (List.mem_of_getElem? (i := 20) rfl))) (mvT hZ (hw _ (List.mem_of_getElem? (i := 21) rfl))) (mvT hZ (hw _ (List.mem_of_getElem? (i := 22) rfl))) (by decide) (mvT hZ (hw _ (List.mem_of_getElem? (i := 24) rfl))) (mvT hZ (hw _ (List.mem_of_getElem? (i := 23) rfl))) (backOf (W := 0) (rmC l Z a0 hw [] a1 wp (3 : Int32) (4 : Int32) (-1 : Int32) mr h0 n0 Z0 E_a1 E_wp O_a1 O_wp M (by decide)) hZ (hw _ (List.mem_of_getElem? (i := 26) rfl)) (hw _ (List.mem_of_getElem? (i := 25) rfl)) (by decide) (by decide)) q2a q2c (g := (mkF m 4 #[.val (.ref a1)] [(.ref wp), (.ref a1)])) rfl (by rw [hml]; rfl) (Steps.refl _) (argsL := [(.ref wp)]) (rest := []) (lenOf pd_rmF3_0 rfl) rfl (by show 2 * 0 + _ ≤ _; exact Nat.le_of_eq rfl) (hb hby d2_4) (fun _ _ => ⟨rfl, e1, (by decide : 0 + 0 ≤ _), (by decide : 0 + 0 ≤ _)⟩)
  dsimp only [Pt.U, Pt.locs, Pt.cells, Pt.slots] at X2 l2 y2 z2 st2 hQ2
  subst l2 y2 z2
  obtain ⟨rfl, N2q, e2⟩ := hQ2
  have N2 := Fr.app N0 N2q
  obtain ⟨fs, hr, hrun, hended, hW, hsame⟩ := X2.leave (v := some (.int (0 : Int32))) (fun h => by rw [Bd.returns] at h; cases h)
  refine ⟨_, _, pre0 _ ?_, hrun, hended, _, _, rfl, ?_, ⟨_, rfl⟩, hW, hsame.mono (by decide) (by decide)⟩
  · show Steps p.tables e below (s₁.setTop (mkF m 0 #[.val (.ref a1)] [])) _
    refine XS.aloadN X0.here hx rfl (hb hby d2_0) rfl rfl ?_
    show Steps p.tables e below (s₁.setTop (mkF m 1 #[.val (.ref a1)] [(.ref a1)])) _
    refine st1 _ ?_
    show Steps p.tables e below (T1.setTop (mkF m 4 #[.val (.ref a1)] [(.ref wp), (.ref a1)])) _
    refine st2.trans ?_
    show Steps p.tables e below (T2.setTop (mkF m 7 #[.val (.ref a1)] [(.int (-1 : Int32))])) _
    refine XS.ifYes X2.here hx rfl (pc0 := 7) (pc' := 14) rfl (hb hby d2_7) rfl ((if0 _ _).trans (tlt (by decide : (-1 : Int32) < (0 : Int32))).1) (by decide) (by decide) ?_
    show Steps p.tables e below (T2.setTop (mkF m 14 #[.val (.ref a1)] [])) _
    refine XS.iconst X2.here hx rfl (hb hby d2_14) ?_
    show Steps p.tables e below (T2.setTop (mkF m 15 #[.val (.ref a1)] [(.int (0 : Int32))])) _
    exact retN X2 hx (t := .boolean) Bd.returns (by simp) (hb hby d2_15) hr
  · show Q_rmF3 Z a1 wp mr h0 n0 _ T2.heap _
    rw [e2]
    exact ⟨rfl, N2, rfl⟩
theorem d2_10 : decode prog_12_method_4_code 10 = .ok (.iconst 1, 1) := by decide +kernel
theorem d2_11 : decode prog_12_method_4_code 11 = .ok (.goto 4, 3) := by decide +kernel
theorem pn_rmF4 : plainName "com/example/nevermind/nevermind/reducer/NodeStatus" = true := by first | (simp [plainName, overriddenIn]; done) | decide +kernel
theorem pd_rmF4_0 : parseMethodDescriptor "(Ljava/lang/Enum;)I" = some ⟨[(.object "java/lang/Enum")], some .int⟩ := by decide +kernel
theorem ef_rmF4 (m : MethodId) (a1 : Addr) : entryFrame m #[(.ref a1)] 1 = mkF m 0 #[.val (.ref a1)] [] := by first | (simp [entryFrame, mkF, argsToLocals, Value.category]; done) | rfl
def Q_rmF4 (Z : State) (a1 : Addr) (wp : Addr) (mr : Addr) (h0 : Heap) (n0 : Nat) (v : Option Value) (h : Heap) (L : List Loc) : Prop := v = some (.int (1 : Int32)) ∧ Fr n0 L ∧ h = h0
set_option maxRecDepth 65536 in
set_option maxHeartbeats 40000000 in
theorem rmF4 (l : Launch) (Z : State) (a0 : Array Value) (hw : ∀ d ∈ tables_1, d.before a0 Z = true) (ws : List Jvm.Cond) (a1 : Addr) (wp : Addr) (mr : Addr) (h0 : Heap) (n0 : Nat) (Z0 : n0 ≤ h0.size) (E_a1 : Exa Z h0 a1 "com/example/nevermind/nevermind/reducer/NodeStatus") (E_wp : Exa Z h0 wp "com/example/nevermind/nevermind/reducer/NodeStatus") (O_a1 : Fld Z h0 a1 "java/lang/Enum" "ordinal" "I" (.int (4 : Int32))) (O_wp : Fld Z h0 wp "java/lang/Enum" "ordinal" "I" (.int (4 : Int32))) (M : Mir Z "com/example/nevermind/nevermind/reducer/NodeStatus" mr) (S_p : Sta Z h0 "com/example/nevermind/nevermind/reducer/NodeStatus" "SUCCEEDED" "Lcom/example/nevermind/nevermind/reducer/NodeStatus;" (.ref wp)) :
    MetFree l (⟨"com/example/nevermind/nevermind/reducer/NodeStatus", "isFinal", "()Z"⟩ : MethodName) (head1 (Jvm.Cond.code (⟨"com/example/nevermind/nevermind/reducer/NodeStatus", "isFinal", "()Z"⟩ : MethodName) prog_12_method_4_code 1 (some .boolean) :: ws) ({ frames := 2, cells := 0, slots := 0, locals := 60 } : Room)) (fun a U => a = #[(.ref a1)] ∧ Z.Warmed39 U.vm ∧ U.heap = h0) (fun _ _ _ _ _ => True) (fun _ U o U' => ∃ v L, o = .returned v ∧ Q_rmF4 Z a1 wp mr h0 n0 v U'.heap L ∧ FrameEnd U o U' L ({ frames := 2, cells := 0, slots := 0, locals := 60 } : Room).cells ({ frames := 2, cells := 0, slots := 0, locals := 60 } : Room).slots) := by
  refine MetFree.of_bodySF (plainFor_of_name pn_rmF4) hisR ?_
  intro p e s m args below meth c s₁ Bd hml0 hP hK
  obtain ⟨rfl, hZ, hh⟩ := hP
  have hx := Bd.exec
  have hby := Bd.bytes
  have hml : c.maxLocals = 1 := hml0
  have hown : s.vm.findClass "com/example/nevermind/nevermind/reducer/NodeStatus" = some m.cls := findClass_of_methodNamed Bd.named
  have hnm := (name_of_methodNamed Bd.named Bd.method).1
  have X0 : Stand p l e ({ frames := 2, cells := 0, slots := 0, locals := 60 } : Room) s m #[(.ref a1)] below meth c s₁ [] 0 0 := Stand.of_body Bd
  have e0 : s₁.heap = h0 := by rw [← hh, Bd.state]; rfl
  have N0 := Fr.nil n0
  have pre0 : ∀ t, Steps p.tables e below (s₁.setTop (mkF m 0 #[.val (.ref a1)] [])) t → Steps p.tables e below (s₁.setTop (entryFrame m #[(.ref a1)] 1)) t := fun t k => castTop (ef_rmF4 m a1) k
  obtain ⟨T1, X1, e1, st1⟩ := getS2 X0 hx hZ hown (host := "") (Or.inl (hw _ (List.mem_of_getElem? (i := 19) rfl))) Via.refl e0 S_p (g := (mkF m 1 #[.val (.ref a1)] [(.ref a1)])) rfl (hb hby d2_1)
  obtain ⟨cq2, kq2, q2a, q2b, q2c⟩ := isOf hZ e1 E_a1
  obtain ⟨_, _, ⟨T2, L2, k2, n2⟩, -, X2, ⟨Lc2, hQ2, l2, y2, z2⟩, st2⟩ := X1.virtualBackUp hx (x := (⟨"com/example/nevermind/nevermind/reducer/NodeStatus", "compareTo", "(Ljava/lang/Enum;)I"⟩ : MethodName)) (y := (⟨"java/lang/Enum", "compareTo", "(Ljava/lang/Enum;)I"⟩ : MethodName)) (owner := "java/lang/Enum") hown (mvT hZ (hw _ (List.mem_of_getElem? (i := 20) rfl))) (mvT hZ (hw _ (List.mem_of_getElem? (i := 21) rfl))) (mvT hZ (hw _ (List.mem_of_getElem? (i := 22) rfl))) (by decide) (mvT hZ (hw _ (List.mem_of_getElem? (i := 24) rfl))) (mvT hZ (hw _ (List.mem_of_getElem? (i := 23) rfl))) (backOf (W := 0) (rmC l Z a0 hw [] a1 wp (4 : Int32) (4 : Int32) (0 : Int32) mr h0 n0 Z0 E_a1 E_wp O_a1 O_wp M (by decide)) hZ (hw _ (List.mem_of_getElem? (i := 26) rfl)) (hw _ (List.mem_of_getElem? (i := 25) rfl)) (by decide) (by decide)) q2a q2c (g := (mkF m 4 #[.val (.ref a1)] [(.ref wp), (.ref a1)])) rfl (by rw [hml]; rfl) (Steps.refl _) (argsL := [(.ref wp)]) (rest := []) (lenOf pd_rmF4_0 rfl) rfl (by show 2 * 0 + _ ≤ _; exact Nat.le_of_eq rfl) (hb hby d2_4) (fun _ _ => ⟨rfl, e1, (by decide : 0 + 0 ≤ _), (by decide : 0 + 0 ≤ _)⟩)
  dsimp only [Pt.U, Pt.locs, Pt.cells, Pt.slots] at X2 l2 y2 z2 st2 hQ2
  subst l2 y2 z2
  obtain ⟨rfl, N2q, e2⟩ := hQ2
  have N2 := Fr.app N0 N2q
  obtain ⟨fs, hr, hrun, hended, hW, hsame⟩ := X2.leave (v := some (.int (1 : Int32))) (fun h => by rw [Bd.returns] at h; cases h)
  refine ⟨_, _, pre0 _ ?_, hrun, hended, _, _, rfl, ?_, ⟨_, rfl⟩, hW, hsame.mono (by decide) (by decide)⟩
  · show Steps p.tables e below (s₁.setTop (mkF m 0 #[.val (.ref a1)] [])) _
    refine XS.aloadN X0.here hx rfl (hb hby d2_0) rfl rfl ?_
    show Steps p.tables e below (s₁.setTop (mkF m 1 #[.val (.ref a1)] [(.ref a1)])) _
    refine st1 _ ?_
    show Steps p.tables e below (T1.setTop (mkF m 4 #[.val (.ref a1)] [(.ref wp), (.ref a1)])) _
    refine st2.trans ?_
    show Steps p.tables e below (T2.setTop (mkF m 7 #[.val (.ref a1)] [(.int (0 : Int32))])) _
    refine XS.ifNo X2.here hx rfl (hb hby d2_7) rfl ((if0 _ _).trans (flt (by decide : ¬ ((0 : Int32) < (0 : Int32)))).1) ?_
    show Steps p.tables e below (T2.setTop (mkF m 10 #[.val (.ref a1)] [])) _
    refine XS.iconst X2.here hx rfl (hb hby d2_10) ?_
    show Steps p.tables e below (T2.setTop (mkF m 11 #[.val (.ref a1)] [(.int (1 : Int32))])) _
    refine XS.goto X2.here hx rfl (pc0 := 11) (pc' := 15) rfl (hb hby d2_11) (by decide) (by decide) ?_
    show Steps p.tables e below (T2.setTop (mkF m 15 #[.val (.ref a1)] [(.int (1 : Int32))])) _
    exact retN X2 hx (t := .boolean) Bd.returns (by simp) (hb hby d2_15) hr
  · show Q_rmF4 Z a1 wp mr h0 n0 _ T2.heap _
    rw [e2]
    exact ⟨rfl, N2, rfl⟩
theorem pn_rmF5 : plainName "com/example/nevermind/nevermind/reducer/NodeStatus" = true := by first | (simp [plainName, overriddenIn]; done) | decide +kernel
theorem pd_rmF5_0 : parseMethodDescriptor "(Ljava/lang/Enum;)I" = some ⟨[(.object "java/lang/Enum")], some .int⟩ := by decide +kernel
theorem ef_rmF5 (m : MethodId) (a1 : Addr) : entryFrame m #[(.ref a1)] 1 = mkF m 0 #[.val (.ref a1)] [] := by first | (simp [entryFrame, mkF, argsToLocals, Value.category]; done) | rfl
def Q_rmF5 (Z : State) (a1 : Addr) (wp : Addr) (mr : Addr) (h0 : Heap) (n0 : Nat) (v : Option Value) (h : Heap) (L : List Loc) : Prop := v = some (.int (1 : Int32)) ∧ Fr n0 L ∧ h = h0
set_option maxRecDepth 65536 in
set_option maxHeartbeats 40000000 in
theorem rmF5 (l : Launch) (Z : State) (a0 : Array Value) (hw : ∀ d ∈ tables_1, d.before a0 Z = true) (ws : List Jvm.Cond) (a1 : Addr) (wp : Addr) (mr : Addr) (h0 : Heap) (n0 : Nat) (Z0 : n0 ≤ h0.size) (E_a1 : Exa Z h0 a1 "com/example/nevermind/nevermind/reducer/NodeStatus") (E_wp : Exa Z h0 wp "com/example/nevermind/nevermind/reducer/NodeStatus") (O_a1 : Fld Z h0 a1 "java/lang/Enum" "ordinal" "I" (.int (5 : Int32))) (O_wp : Fld Z h0 wp "java/lang/Enum" "ordinal" "I" (.int (4 : Int32))) (M : Mir Z "com/example/nevermind/nevermind/reducer/NodeStatus" mr) (S_p : Sta Z h0 "com/example/nevermind/nevermind/reducer/NodeStatus" "SUCCEEDED" "Lcom/example/nevermind/nevermind/reducer/NodeStatus;" (.ref wp)) :
    MetFree l (⟨"com/example/nevermind/nevermind/reducer/NodeStatus", "isFinal", "()Z"⟩ : MethodName) (head1 (Jvm.Cond.code (⟨"com/example/nevermind/nevermind/reducer/NodeStatus", "isFinal", "()Z"⟩ : MethodName) prog_12_method_4_code 1 (some .boolean) :: ws) ({ frames := 2, cells := 0, slots := 0, locals := 60 } : Room)) (fun a U => a = #[(.ref a1)] ∧ Z.Warmed39 U.vm ∧ U.heap = h0) (fun _ _ _ _ _ => True) (fun _ U o U' => ∃ v L, o = .returned v ∧ Q_rmF5 Z a1 wp mr h0 n0 v U'.heap L ∧ FrameEnd U o U' L ({ frames := 2, cells := 0, slots := 0, locals := 60 } : Room).cells ({ frames := 2, cells := 0, slots := 0, locals := 60 } : Room).slots) := by
  refine MetFree.of_bodySF (plainFor_of_name pn_rmF5) hisR ?_
  intro p e s m args below meth c s₁ Bd hml0 hP hK
  obtain ⟨rfl, hZ, hh⟩ := hP
  have hx := Bd.exec
  have hby := Bd.bytes
  have hml : c.maxLocals = 1 := hml0
  have hown : s.vm.findClass "com/example/nevermind/nevermind/reducer/NodeStatus" = some m.cls := findClass_of_methodNamed Bd.named
  have hnm := (name_of_methodNamed Bd.named Bd.method).1
  have X0 : Stand p l e ({ frames := 2, cells := 0, slots := 0, locals := 60 } : Room) s m #[(.ref a1)] below meth c s₁ [] 0 0 := Stand.of_body Bd
  have e0 : s₁.heap = h0 := by rw [← hh, Bd.state]; rfl
  have N0 := Fr.nil n0
  have pre0 : ∀ t, Steps p.tables e below (s₁.setTop (mkF m 0 #[.val (.ref a1)] [])) t → Steps p.tables e below (s₁.setTop (entryFrame m #[(.ref a1)] 1)) t := fun t k => castTop (ef_rmF5 m a1) k
  obtain ⟨T1, X1, e1, st1⟩ := getS2 X0 hx hZ hown (host := "") (Or.inl (hw _ (List.mem_of_getElem? (i := 19) rfl))) Via.refl e0 S_p (g := (mkF m 1 #[.val (.ref a1)] [(.ref a1)])) rfl (hb hby d2_1)
  obtain ⟨cq2, kq2, q2a, q2b, q2c⟩ := isOf hZ e1 E_a1
  obtain ⟨_, _, ⟨T2, L2, k2, n2⟩, -, X2, ⟨Lc2, hQ2, l2, y2, z2⟩, st2⟩ := X1.virtualBackUp hx (x := (⟨"com/example/nevermind/nevermind/reducer/NodeStatus", "compareTo", "(Ljava/lang/Enum;)I"⟩ : MethodName)) (y := (⟨"java/lang/Enum", "compareTo", "(Ljava/lang/Enum;)I"⟩ : MethodName)) (owner := "java/lang/Enum") hown (mvT hZ (hw _ (List.mem_of_getElem? (i := 20) rfl))) (mvT hZ (hw _ (List.mem_of_getElem? (i := 21) rfl))) (mvT hZ (hw _ (List.mem_of_getElem? (i := 22) rfl))) (by decide) (mvT hZ (hw _ (List.mem_of_getElem? (i := 24) rfl))) (mvT hZ (hw _ (List.mem_of_getElem? (i := 23) rfl))) (backOf (W := 0) (rmC l Z a0 hw [] a1 wp (5 : Int32) (4 : Int32) (1 : Int32) mr h0 n0 Z0 E_a1 E_wp O_a1 O_wp M (by decide)) hZ (hw _ (List.mem_of_getElem? (i := 26) rfl)) (hw _ (List.mem_of_getElem? (i := 25) rfl)) (by decide) (by decide)) q2a q2c (g := (mkF m 4 #[.val (.ref a1)] [(.ref wp), (.ref a1)])) rfl (by rw [hml]; rfl) (Steps.refl _) (argsL := [(.ref wp)]) (rest := []) (lenOf pd_rmF5_0 rfl) rfl (by show 2 * 0 + _ ≤ _; exact Nat.le_of_eq rfl) (hb hby d2_4) (fun _ _ => ⟨rfl, e1, (by decide : 0 + 0 ≤ _), (by decide : 0 + 0 ≤ _)⟩)
  dsimp only [Pt.U, Pt.locs, Pt.cells, Pt.slots] at X2 l2 y2 z2 st2 hQ2
  subst l2 y2 z2
  obtain ⟨rfl, N2q, e2⟩ := hQ2
  have N2 := Fr.app N0 N2q
  obtain ⟨fs, hr, hrun, hended, hW, hsame⟩ := X2.leave (v := some (.int (1 : Int32))) (fun h => by rw [Bd.returns] at h; cases h)
  refine ⟨_, _, pre0 _ ?_, hrun, hended, _, _, rfl, ?_, ⟨_, rfl⟩, hW, hsame.mono (by decide) (by decide)⟩
  · show Steps p.tables e below (s₁.setTop (mkF m 0 #[.val (.ref a1)] [])) _
    refine XS.aloadN X0.here hx rfl (hb hby d2_0) rfl rfl ?_
    show Steps p.tables e below (s₁.setTop (mkF m 1 #[.val (.ref a1)] [(.ref a1)])) _
    refine st1 _ ?_
    show Steps p.tables e below (T1.setTop (mkF m 4 #[.val (.ref a1)] [(.ref wp), (.ref a1)])) _
    refine st2.trans ?_
    show Steps p.tables e below (T2.setTop (mkF m 7 #[.val (.ref a1)] [(.int (1 : Int32))])) _
    refine XS.ifNo X2.here hx rfl (hb hby d2_7) rfl ((if0 _ _).trans (flt (by decide : ¬ ((1 : Int32) < (0 : Int32)))).1) ?_
    show Steps p.tables e below (T2.setTop (mkF m 10 #[.val (.ref a1)] [])) _
    refine XS.iconst X2.here hx rfl (hb hby d2_10) ?_
    show Steps p.tables e below (T2.setTop (mkF m 11 #[.val (.ref a1)] [(.int (1 : Int32))])) _
    refine XS.goto X2.here hx rfl (pc0 := 11) (pc' := 15) rfl (hb hby d2_11) (by decide) (by decide) ?_
    show Steps p.tables e below (T2.setTop (mkF m 15 #[.val (.ref a1)] [(.int (1 : Int32))])) _
    exact retN X2 hx (t := .boolean) Bd.returns (by simp) (hb hby d2_15) hr
  · show Q_rmF5 Z a1 wp mr h0 n0 _ T2.heap _
    rw [e2]
    exact ⟨rfl, N2, rfl⟩
theorem pn_rmF6 : plainName "com/example/nevermind/nevermind/reducer/NodeStatus" = true := by first | (simp [plainName, overriddenIn]; done) | decide +kernel
theorem pd_rmF6_0 : parseMethodDescriptor "(Ljava/lang/Enum;)I" = some ⟨[(.object "java/lang/Enum")], some .int⟩ := by decide +kernel
theorem ef_rmF6 (m : MethodId) (a1 : Addr) : entryFrame m #[(.ref a1)] 1 = mkF m 0 #[.val (.ref a1)] [] := by first | (simp [entryFrame, mkF, argsToLocals, Value.category]; done) | rfl
def Q_rmF6 (Z : State) (a1 : Addr) (wp : Addr) (mr : Addr) (h0 : Heap) (n0 : Nat) (v : Option Value) (h : Heap) (L : List Loc) : Prop := v = some (.int (1 : Int32)) ∧ Fr n0 L ∧ h = h0
set_option maxRecDepth 65536 in
set_option maxHeartbeats 40000000 in
theorem rmF6 (l : Launch) (Z : State) (a0 : Array Value) (hw : ∀ d ∈ tables_1, d.before a0 Z = true) (ws : List Jvm.Cond) (a1 : Addr) (wp : Addr) (mr : Addr) (h0 : Heap) (n0 : Nat) (Z0 : n0 ≤ h0.size) (E_a1 : Exa Z h0 a1 "com/example/nevermind/nevermind/reducer/NodeStatus") (E_wp : Exa Z h0 wp "com/example/nevermind/nevermind/reducer/NodeStatus") (O_a1 : Fld Z h0 a1 "java/lang/Enum" "ordinal" "I" (.int (6 : Int32))) (O_wp : Fld Z h0 wp "java/lang/Enum" "ordinal" "I" (.int (4 : Int32))) (M : Mir Z "com/example/nevermind/nevermind/reducer/NodeStatus" mr) (S_p : Sta Z h0 "com/example/nevermind/nevermind/reducer/NodeStatus" "SUCCEEDED" "Lcom/example/nevermind/nevermind/reducer/NodeStatus;" (.ref wp)) :
    MetFree l (⟨"com/example/nevermind/nevermind/reducer/NodeStatus", "isFinal", "()Z"⟩ : MethodName) (head1 (Jvm.Cond.code (⟨"com/example/nevermind/nevermind/reducer/NodeStatus", "isFinal", "()Z"⟩ : MethodName) prog_12_method_4_code 1 (some .boolean) :: ws) ({ frames := 2, cells := 0, slots := 0, locals := 60 } : Room)) (fun a U => a = #[(.ref a1)] ∧ Z.Warmed39 U.vm ∧ U.heap = h0) (fun _ _ _ _ _ => True) (fun _ U o U' => ∃ v L, o = .returned v ∧ Q_rmF6 Z a1 wp mr h0 n0 v U'.heap L ∧ FrameEnd U o U' L ({ frames := 2, cells := 0, slots := 0, locals := 60 } : Room).cells ({ frames := 2, cells := 0, slots := 0, locals := 60 } : Room).slots) := by
  refine MetFree.of_bodySF (plainFor_of_name pn_rmF6) hisR ?_
  intro p e s m args below meth c s₁ Bd hml0 hP hK
  obtain ⟨rfl, hZ, hh⟩ := hP
  have hx := Bd.exec
  have hby := Bd.bytes
  have hml : c.maxLocals = 1 := hml0
  have hown : s.vm.findClass "com/example/nevermind/nevermind/reducer/NodeStatus" = some m.cls := findClass_of_methodNamed Bd.named
  have hnm := (name_of_methodNamed Bd.named Bd.method).1
  have X0 : Stand p l e ({ frames := 2, cells := 0, slots := 0, locals := 60 } : Room) s m #[(.ref a1)] below meth c s₁ [] 0 0 := Stand.of_body Bd
  have e0 : s₁.heap = h0 := by rw [← hh, Bd.state]; rfl
  have N0 := Fr.nil n0
  have pre0 : ∀ t, Steps p.tables e below (s₁.setTop (mkF m 0 #[.val (.ref a1)] [])) t → Steps p.tables e below (s₁.setTop (entryFrame m #[(.ref a1)] 1)) t := fun t k => castTop (ef_rmF6 m a1) k
  obtain ⟨T1, X1, e1, st1⟩ := getS2 X0 hx hZ hown (host := "") (Or.inl (hw _ (List.mem_of_getElem? (i := 19) rfl))) Via.refl e0 S_p (g := (mkF m 1 #[.val (.ref a1)] [(.ref a1)])) rfl (hb hby d2_1)
  obtain ⟨cq2, kq2, q2a, q2b, q2c⟩ := isOf hZ e1 E_a1
  obtain ⟨_, _, ⟨T2, L2, k2, n2⟩, -, X2, ⟨Lc2, hQ2, l2, y2, z2⟩, st2⟩ := X1.virtualBackUp hx (x := (⟨"com/example/nevermind/nevermind/reducer/NodeStatus", "compareTo", "(Ljava/lang/Enum;)I"⟩ : MethodName)) (y := (⟨"java/lang/Enum", "compareTo", "(Ljava/lang/Enum;)I"⟩ : MethodName)) (owner := "java/lang/Enum") hown (mvT hZ (hw _ (List.mem_of_getElem? (i := 20) rfl))) (mvT hZ (hw _ (List.mem_of_getElem? (i := 21) rfl))) (mvT hZ (hw _ (List.mem_of_getElem? (i := 22) rfl))) (by decide) (mvT hZ (hw _ (List.mem_of_getElem? (i := 24) rfl))) (mvT hZ (hw _ (List.mem_of_getElem? (i := 23) rfl))) (backOf (W := 0) (rmC l Z a0 hw [] a1 wp (6 : Int32) (4 : Int32) (2 : Int32) mr h0 n0 Z0 E_a1 E_wp O_a1 O_wp M (by decide)) hZ (hw _ (List.mem_of_getElem? (i := 26) rfl)) (hw _ (List.mem_of_getElem? (i := 25) rfl)) (by decide) (by decide)) q2a q2c (g := (mkF m 4 #[.val (.ref a1)] [(.ref wp), (.ref a1)])) rfl (by rw [hml]; rfl) (Steps.refl _) (argsL := [(.ref wp)]) (rest := []) (lenOf pd_rmF6_0 rfl) rfl (by show 2 * 0 + _ ≤ _; exact Nat.le_of_eq rfl) (hb hby d2_4) (fun _ _ => ⟨rfl, e1, (by decide : 0 + 0 ≤ _), (by decide : 0 + 0 ≤ _)⟩)
  dsimp only [Pt.U, Pt.locs, Pt.cells, Pt.slots] at X2 l2 y2 z2 st2 hQ2
  subst l2 y2 z2
  obtain ⟨rfl, N2q, e2⟩ := hQ2
  have N2 := Fr.app N0 N2q
  obtain ⟨fs, hr, hrun, hended, hW, hsame⟩ := X2.leave (v := some (.int (1 : Int32))) (fun h => by rw [Bd.returns] at h; cases h)
  refine ⟨_, _, pre0 _ ?_, hrun, hended, _, _, rfl, ?_, ⟨_, rfl⟩, hW, hsame.mono (by decide) (by decide)⟩
  · show Steps p.tables e below (s₁.setTop (mkF m 0 #[.val (.ref a1)] [])) _
    refine XS.aloadN X0.here hx rfl (hb hby d2_0) rfl rfl ?_
    show Steps p.tables e below (s₁.setTop (mkF m 1 #[.val (.ref a1)] [(.ref a1)])) _
    refine st1 _ ?_
    show Steps p.tables e below (T1.setTop (mkF m 4 #[.val (.ref a1)] [(.ref wp), (.ref a1)])) _
    refine st2.trans ?_
    show Steps p.tables e below (T2.setTop (mkF m 7 #[.val (.ref a1)] [(.int (2 : Int32))])) _
    refine XS.ifNo X2.here hx rfl (hb hby d2_7) rfl ((if0 _ _).trans (flt (by decide : ¬ ((2 : Int32) < (0 : Int32)))).1) ?_
    show Steps p.tables e below (T2.setTop (mkF m 10 #[.val (.ref a1)] [])) _
    refine XS.iconst X2.here hx rfl (hb hby d2_10) ?_
    show Steps p.tables e below (T2.setTop (mkF m 11 #[.val (.ref a1)] [(.int (1 : Int32))])) _
    refine XS.goto X2.here hx rfl (pc0 := 11) (pc' := 15) rfl (hb hby d2_11) (by decide) (by decide) ?_
    show Steps p.tables e below (T2.setTop (mkF m 15 #[.val (.ref a1)] [(.int (1 : Int32))])) _
    exact retN X2 hx (t := .boolean) Bd.returns (by simp) (hb hby d2_15) hr
  · show Q_rmF6 Z a1 wp mr h0 n0 _ T2.heap _
    rw [e2]
    exact ⟨rfl, N2, rfl⟩
def pickA (k : Int32) (w_IDLE : Addr) (w_READY : Addr) (w_RUNNING : Addr) (w_WAITING : Addr) (w_SUCCEEDED : Addr) (w_FAILED : Addr) (w_CANCELED : Addr) : Addr := if k = (0 : Int32) then w_IDLE else if k = (1 : Int32) then w_READY else if k = (2 : Int32) then w_RUNNING else if k = (3 : Int32) then w_WAITING else if k = (4 : Int32) then w_SUCCEEDED else if k = (5 : Int32) then w_FAILED else w_CANCELED
theorem d1_0 : decode method_2_code 0 = .ok (.iload_n 0, 1) := by decide +kernel
theorem d1_1 : decode method_2_code 1 = .ok (.ifCond .ne 7, 3) := by decide +kernel
theorem d1_4 : decode method_2_code 4 = .ok (.getstatic 7, 3) := by decide +kernel
theorem d1_7 : decode method_2_code 7 = .ok (.areturn, 1) := by decide +kernel
theorem d1_8 : decode method_2_code 8 = .ok (.iload_n 0, 1) := by decide +kernel
theorem d1_9 : decode method_2_code 9 = .ok (.iconst 1, 1) := by decide +kernel
theorem d1_10 : decode method_2_code 10 = .ok (.if_icmp .ne 7, 3) := by decide +kernel
theorem d1_13 : decode method_2_code 13 = .ok (.getstatic 13, 3) := by decide +kernel
theorem d1_16 : decode method_2_code 16 = .ok (.areturn, 1) := by decide +kernel
theorem d1_17 : decode method_2_code 17 = .ok (.iload_n 0, 1) := by decide +kernel
theorem d1_18 : decode method_2_code 18 = .ok (.iconst 2, 1) := by decide +kernel
theorem d1_19 : decode method_2_code 19 = .ok (.if_icmp .ne 7, 3) := by decide +kernel
theorem d1_22 : decode method_2_code 22 = .ok (.getstatic 16, 3) := by decide +kernel
theorem d1_25 : decode method_2_code 25 = .ok (.areturn, 1) := by decide +kernel
theorem d1_26 : decode method_2_code 26 = .ok (.iload_n 0, 1) := by decide +kernel
theorem d1_27 : decode method_2_code 27 = .ok (.iconst 3, 1) := by decide +kernel
theorem d1_28 : decode method_2_code 28 = .ok (.if_icmp .ne 7, 3) := by decide +kernel
theorem d1_31 : decode method_2_code 31 = .ok (.getstatic 19, 3) := by decide +kernel
theorem d1_34 : decode method_2_code 34 = .ok (.areturn, 1) := by decide +kernel
theorem d1_35 : decode method_2_code 35 = .ok (.iload_n 0, 1) := by decide +kernel
theorem d1_36 : decode method_2_code 36 = .ok (.iconst 4, 1) := by decide +kernel
theorem d1_37 : decode method_2_code 37 = .ok (.if_icmp .ne 7, 3) := by decide +kernel
theorem d1_40 : decode method_2_code 40 = .ok (.getstatic 22, 3) := by decide +kernel
theorem d1_43 : decode method_2_code 43 = .ok (.areturn, 1) := by decide +kernel
theorem d1_44 : decode method_2_code 44 = .ok (.iload_n 0, 1) := by decide +kernel
theorem d1_45 : decode method_2_code 45 = .ok (.iconst 5, 1) := by decide +kernel
theorem d1_46 : decode method_2_code 46 = .ok (.if_icmp .ne 7, 3) := by decide +kernel
theorem d1_49 : decode method_2_code 49 = .ok (.getstatic 25, 3) := by decide +kernel
theorem d1_52 : decode method_2_code 52 = .ok (.areturn, 1) := by decide +kernel
theorem d1_53 : decode method_2_code 53 = .ok (.getstatic 28, 3) := by decide +kernel
theorem d1_56 : decode method_2_code 56 = .ok (.areturn, 1) := by decide +kernel
theorem pn_rm1 : plainName "com/example/nevermind/nevermind/reducer/NodeStatusIsFinalPinLaw" = true := by first | (simp [plainName, overriddenIn]; done) | decide +kernel
theorem ef_rm1 (m : MethodId) (p1 : Int32) : entryFrame m #[(.int p1)] 1 = mkF m 0 #[.val (.int p1)] [] := by first | (simp [entryFrame, mkF, argsToLocals, Value.category]; done) | rfl
def Q_rm1 (Z : State) (p1 : Int32) (w_IDLE : Addr) (w_READY : Addr) (w_RUNNING : Addr) (w_WAITING : Addr) (w_SUCCEEDED : Addr) (w_FAILED : Addr) (w_CANCELED : Addr) (r : Addr) (h0 : Heap) (n0 : Nat) (v : Option Value) (h : Heap) (L : List Loc) : Prop := v = some (.ref r) ∧ Fr n0 L ∧ h = h0
set_option maxRecDepth 65536 in
set_option maxHeartbeats 40000000 in
theorem rm1 (l : Launch) (Z : State) (a0 : Array Value) (hw : ∀ d ∈ tables_1, d.before a0 Z = true) (ws : List Jvm.Cond) (p1 : Int32) (w_IDLE : Addr) (w_READY : Addr) (w_RUNNING : Addr) (w_WAITING : Addr) (w_SUCCEEDED : Addr) (w_FAILED : Addr) (w_CANCELED : Addr) (r : Addr) (h0 : Heap) (n0 : Nat) (Z0 : n0 ≤ h0.size) (S_IDLE : Sta Z h0 "com/example/nevermind/nevermind/reducer/NodeStatus" "IDLE" "Lcom/example/nevermind/nevermind/reducer/NodeStatus;" (.ref w_IDLE)) (S_READY : Sta Z h0 "com/example/nevermind/nevermind/reducer/NodeStatus" "READY" "Lcom/example/nevermind/nevermind/reducer/NodeStatus;" (.ref w_READY)) (S_RUNNING : Sta Z h0 "com/example/nevermind/nevermind/reducer/NodeStatus" "RUNNING" "Lcom/example/nevermind/nevermind/reducer/NodeStatus;" (.ref w_RUNNING)) (S_WAITING : Sta Z h0 "com/example/nevermind/nevermind/reducer/NodeStatus" "WAITING" "Lcom/example/nevermind/nevermind/reducer/NodeStatus;" (.ref w_WAITING)) (S_SUCCEEDED : Sta Z h0 "com/example/nevermind/nevermind/reducer/NodeStatus" "SUCCEEDED" "Lcom/example/nevermind/nevermind/reducer/NodeStatus;" (.ref w_SUCCEEDED)) (S_FAILED : Sta Z h0 "com/example/nevermind/nevermind/reducer/NodeStatus" "FAILED" "Lcom/example/nevermind/nevermind/reducer/NodeStatus;" (.ref w_FAILED)) (S_CANCELED : Sta Z h0 "com/example/nevermind/nevermind/reducer/NodeStatus" "CANCELED" "Lcom/example/nevermind/nevermind/reducer/NodeStatus;" (.ref w_CANCELED)) (hret : pickA p1 w_IDLE w_READY w_RUNNING w_WAITING w_SUCCEEDED w_FAILED w_CANCELED = r) :
    MetFree l (⟨"com/example/nevermind/nevermind/reducer/NodeStatusIsFinalPinLaw", "pick", "(I)Lcom/example/nevermind/nevermind/reducer/NodeStatus;"⟩ : MethodName) (head1 (Jvm.Cond.code (⟨"com/example/nevermind/nevermind/reducer/NodeStatusIsFinalPinLaw", "pick", "(I)Lcom/example/nevermind/nevermind/reducer/NodeStatus;"⟩ : MethodName) method_2_code 1 (some (.object "com/example/nevermind/nevermind/reducer/NodeStatus")) :: ws) ({ frames := 0, cells := 0, slots := 0, locals := 0 } : Room)) (fun a U => a = #[(.int p1)] ∧ Z.Warmed39 U.vm ∧ U.heap = h0) (fun _ _ _ _ _ => True) (fun _ U o U' => ∃ v L, o = .returned v ∧ Q_rm1 Z p1 w_IDLE w_READY w_RUNNING w_WAITING w_SUCCEEDED w_FAILED w_CANCELED r h0 n0 v U'.heap L ∧ FrameEnd U o U' L ({ frames := 0, cells := 0, slots := 0, locals := 0 } : Room).cells ({ frames := 0, cells := 0, slots := 0, locals := 0 } : Room).slots) := by
  refine MetFree.of_bodySF (plainFor_of_name pn_rm1) hisR ?_
  intro p e s m args below meth c s₁ Bd hml0 hP hK
  obtain ⟨rfl, hZ, hh⟩ := hP
  have hx := Bd.exec
  have hby := Bd.bytes
  have hml : c.maxLocals = 1 := hml0
  have hown : s.vm.findClass "com/example/nevermind/nevermind/reducer/NodeStatusIsFinalPinLaw" = some m.cls := findClass_of_methodNamed Bd.named
  have hnm := (name_of_methodNamed Bd.named Bd.method).1
  have X0 : Stand p l e ({ frames := 0, cells := 0, slots := 0, locals := 0 } : Room) s m #[(.int p1)] below meth c s₁ [] 0 0 := Stand.of_body Bd
  have e0 : s₁.heap = h0 := by rw [← hh, Bd.state]; rfl
  have N0 := Fr.nil n0
  have pre0 : ∀ t, Steps p.tables e below (s₁.setTop (mkF m 0 #[.val (.int p1)] [])) t → Steps p.tables e below (s₁.setTop (entryFrame m #[(.int p1)] 1)) t := fun t k => castTop (ef_rm1 m p1) k
  have pre1 : ∀ t, Steps p.tables e below (s₁.setTop (mkF m 1 #[.val (.int p1)] [(.int p1)])) t → Steps p.tables e below (s₁.setTop (entryFrame m #[(.int p1)] 1)) t := fun t k => pre0 t (by
      show Steps p.tables e below (s₁.setTop (mkF m 0 #[.val (.int p1)] [])) _
      refine XS.iloadN X0.here hx rfl (hb hby d1_0) rfl ?_
      exact k)
  by_cases hc2 : p1 = (0 : Int32)
  · obtain ⟨T3, X3, e3, st3⟩ := getS2 X0 hx hZ hown (host := "") (Or.inl (hw _ (List.mem_of_getElem? (i := 5) rfl))) Via.refl e0 S_IDLE (g := (mkF m 4 #[.val (.int p1)] [])) rfl (hb hby d1_4)
    obtain ⟨fs, hr, hrun, hended, hW, hsame⟩ := X3.leave (v := some (.ref w_IDLE)) (fun h => by rw [Bd.returns] at h; cases h)
    refine ⟨_, _, pre1 _ ?_, hrun, hended, _, _, rfl, ?_, ⟨_, rfl⟩, hW, hsame.mono (by decide) (by decide)⟩
    · show Steps p.tables e below (s₁.setTop (mkF m 1 #[.val (.int p1)] [(.int p1)])) _
      refine XS.ifNo X0.here hx rfl (hb hby d1_1) rfl ((if0 _ _).trans (teq hc2).2) ?_
      show Steps p.tables e below (s₁.setTop (mkF m 4 #[.val (.int p1)] [])) _
      refine st3 _ ?_
      show Steps p.tables e below (T3.setTop (mkF m 7 #[.val (.int p1)] [(.ref w_IDLE)])) _
      jvm_step X3.here [X3.here.top, hx, (hb hby d1_7), X3.method', Bd.returns, Value.isRef, FieldType.isReference]
      first | (intro acts; rw [hr _ acts rfl rfl rfl]) | rw [hr _ _ rfl rfl rfl]
      exact Steps.refl _
    · show Q_rm1 Z p1 w_IDLE w_READY w_RUNNING w_WAITING w_SUCCEEDED w_FAILED w_CANCELED r h0 n0 _ T3.heap _
      rw [e3]
      exact ⟨by rw [← hret]; simp only [pickA, if_pos hc2], N0, rfl⟩
  · have pre4 : ∀ t, Steps p.tables e below (s₁.setTop (mkF m 10 #[.val (.int p1)] [(.int (1 : Int32)), (.int p1)])) t → Steps p.tables e below (s₁.setTop (entryFrame m #[(.int p1)] 1)) t := fun t k => pre1 t (by
        show Steps p.tables e below (s₁.setTop (mkF m 1 #[.val (.int p1)] [(.int p1)])) _
        refine XS.ifYes X0.here hx rfl (pc0 := 1) (pc' := 8) rfl (hb hby d1_1) rfl ((if0 _ _).trans (feq hc2).2) (by decide) (by decide) ?_
        show Steps p.tables e below (s₁.setTop (mkF m 8 #[.val (.int p1)] [])) _
        refine XS.iloadN X0.here hx rfl (hb hby d1_8) rfl ?_
        show Steps p.tables e below (s₁.setTop (mkF m 9 #[.val (.int p1)] [(.int p1)])) _
        refine XS.iconst X0.here hx rfl (hb hby d1_9) ?_
        exact k)
    by_cases hc5 : p1 = (1 : Int32)
    · obtain ⟨T6, X6, e6, st6⟩ := getS2 X0 hx hZ hown (host := "") (Or.inl (hw _ (List.mem_of_getElem? (i := 39) rfl))) Via.refl e0 S_READY (g := (mkF m 13 #[.val (.int p1)] [])) rfl (hb hby d1_13)
      obtain ⟨fs, hr, hrun, hended, hW, hsame⟩ := X6.leave (v := some (.ref w_READY)) (fun h => by rw [Bd.returns] at h; cases h)
      refine ⟨_, _, pre4 _ ?_, hrun, hended, _, _, rfl, ?_, ⟨_, rfl⟩, hW, hsame.mono (by decide) (by decide)⟩
      · show Steps p.tables e below (s₁.setTop (mkF m 10 #[.val (.int p1)] [(.int (1 : Int32)), (.int p1)])) _
        refine XS.icmpNo X0.here hx rfl (hb hby d1_10) rfl (teq hc5).2 ?_
        show Steps p.tables e below (s₁.setTop (mkF m 13 #[.val (.int p1)] [])) _
        refine st6 _ ?_
        show Steps p.tables e below (T6.setTop (mkF m 16 #[.val (.int p1)] [(.ref w_READY)])) _
        jvm_step X6.here [X6.here.top, hx, (hb hby d1_16), X6.method', Bd.returns, Value.isRef, FieldType.isReference]
        first | (intro acts; rw [hr _ acts rfl rfl rfl]) | rw [hr _ _ rfl rfl rfl]
        exact Steps.refl _
      · show Q_rm1 Z p1 w_IDLE w_READY w_RUNNING w_WAITING w_SUCCEEDED w_FAILED w_CANCELED r h0 n0 _ T6.heap _
        rw [e6]
        exact ⟨by rw [← hret]; simp only [pickA, if_neg hc2, if_pos hc5], N0, rfl⟩
    · have pre7 : ∀ t, Steps p.tables e below (s₁.setTop (mkF m 19 #[.val (.int p1)] [(.int (2 : Int32)), (.int p1)])) t → Steps p.tables e below (s₁.setTop (entryFrame m #[(.int p1)] 1)) t := fun t k => pre4 t (by
          show Steps p.tables e below (s₁.setTop (mkF m 10 #[.val (.int p1)] [(.int (1 : Int32)), (.int p1)])) _
          refine XS.icmpYes X0.here hx rfl (pc0 := 10) (pc' := 17) rfl (hb hby d1_10) rfl (feq hc5).2 (by decide) (by decide) ?_
          show Steps p.tables e below (s₁.setTop (mkF m 17 #[.val (.int p1)] [])) _
          refine XS.iloadN X0.here hx rfl (hb hby d1_17) rfl ?_
          show Steps p.tables e below (s₁.setTop (mkF m 18 #[.val (.int p1)] [(.int p1)])) _
          refine XS.iconst X0.here hx rfl (hb hby d1_18) ?_
          exact k)
      by_cases hc8 : p1 = (2 : Int32)
      · obtain ⟨T9, X9, e9, st9⟩ := getS2 X0 hx hZ hown (host := "") (Or.inl (hw _ (List.mem_of_getElem? (i := 37) rfl))) Via.refl e0 S_RUNNING (g := (mkF m 22 #[.val (.int p1)] [])) rfl (hb hby d1_22)
        obtain ⟨fs, hr, hrun, hended, hW, hsame⟩ := X9.leave (v := some (.ref w_RUNNING)) (fun h => by rw [Bd.returns] at h; cases h)
        refine ⟨_, _, pre7 _ ?_, hrun, hended, _, _, rfl, ?_, ⟨_, rfl⟩, hW, hsame.mono (by decide) (by decide)⟩
        · show Steps p.tables e below (s₁.setTop (mkF m 19 #[.val (.int p1)] [(.int (2 : Int32)), (.int p1)])) _
          refine XS.icmpNo X0.here hx rfl (hb hby d1_19) rfl (teq hc8).2 ?_
          show Steps p.tables e below (s₁.setTop (mkF m 22 #[.val (.int p1)] [])) _
          refine st9 _ ?_
          show Steps p.tables e below (T9.setTop (mkF m 25 #[.val (.int p1)] [(.ref w_RUNNING)])) _
          jvm_step X9.here [X9.here.top, hx, (hb hby d1_25), X9.method', Bd.returns, Value.isRef, FieldType.isReference]
          first | (intro acts; rw [hr _ acts rfl rfl rfl]) | rw [hr _ _ rfl rfl rfl]
          exact Steps.refl _
        · show Q_rm1 Z p1 w_IDLE w_READY w_RUNNING w_WAITING w_SUCCEEDED w_FAILED w_CANCELED r h0 n0 _ T9.heap _
          rw [e9]
          exact ⟨by rw [← hret]; simp only [pickA, if_neg hc2, if_neg hc5, if_pos hc8], N0, rfl⟩
      · have pre10 : ∀ t, Steps p.tables e below (s₁.setTop (mkF m 28 #[.val (.int p1)] [(.int (3 : Int32)), (.int p1)])) t → Steps p.tables e below (s₁.setTop (entryFrame m #[(.int p1)] 1)) t := fun t k => pre7 t (by
            show Steps p.tables e below (s₁.setTop (mkF m 19 #[.val (.int p1)] [(.int (2 : Int32)), (.int p1)])) _
            refine XS.icmpYes X0.here hx rfl (pc0 := 19) (pc' := 26) rfl (hb hby d1_19) rfl (feq hc8).2 (by decide) (by decide) ?_
            show Steps p.tables e below (s₁.setTop (mkF m 26 #[.val (.int p1)] [])) _
            refine XS.iloadN X0.here hx rfl (hb hby d1_26) rfl ?_
            show Steps p.tables e below (s₁.setTop (mkF m 27 #[.val (.int p1)] [(.int p1)])) _
            refine XS.iconst X0.here hx rfl (hb hby d1_27) ?_
            exact k)
        by_cases hc11 : p1 = (3 : Int32)
        · obtain ⟨T12, X12, e12, st12⟩ := getS2 X0 hx hZ hown (host := "") (Or.inl (hw _ (List.mem_of_getElem? (i := 35) rfl))) Via.refl e0 S_WAITING (g := (mkF m 31 #[.val (.int p1)] [])) rfl (hb hby d1_31)
          obtain ⟨fs, hr, hrun, hended, hW, hsame⟩ := X12.leave (v := some (.ref w_WAITING)) (fun h => by rw [Bd.returns] at h; cases h)
          refine ⟨_, _, pre10 _ ?_, hrun, hended, _, _, rfl, ?_, ⟨_, rfl⟩, hW, hsame.mono (by decide) (by decide)⟩
          · show Steps p.tables e below (s₁.setTop (mkF m 28 #[.val (.int p1)] [(.int (3 : Int32)), (.int p1)])) _
            refine XS.icmpNo X0.here hx rfl (hb hby d1_28) rfl (teq hc11).2 ?_
            show Steps p.tables e below (s₁.setTop (mkF m 31 #[.val (.int p1)] [])) _
            refine st12 _ ?_
            show Steps p.tables e below (T12.setTop (mkF m 34 #[.val (.int p1)] [(.ref w_WAITING)])) _
            jvm_step X12.here [X12.here.top, hx, (hb hby d1_34), X12.method', Bd.returns, Value.isRef, FieldType.isReference]
            first | (intro acts; rw [hr _ acts rfl rfl rfl]) | rw [hr _ _ rfl rfl rfl]
            exact Steps.refl _
          · show Q_rm1 Z p1 w_IDLE w_READY w_RUNNING w_WAITING w_SUCCEEDED w_FAILED w_CANCELED r h0 n0 _ T12.heap _
            rw [e12]
            exact ⟨by rw [← hret]; simp only [pickA, if_neg hc2, if_neg hc5, if_neg hc8, if_pos hc11], N0, rfl⟩
        · have pre13 : ∀ t, Steps p.tables e below (s₁.setTop (mkF m 37 #[.val (.int p1)] [(.int (4 : Int32)), (.int p1)])) t → Steps p.tables e below (s₁.setTop (entryFrame m #[(.int p1)] 1)) t := fun t k => pre10 t (by
              show Steps p.tables e below (s₁.setTop (mkF m 28 #[.val (.int p1)] [(.int (3 : Int32)), (.int p1)])) _
              refine XS.icmpYes X0.here hx rfl (pc0 := 28) (pc' := 35) rfl (hb hby d1_28) rfl (feq hc11).2 (by decide) (by decide) ?_
              show Steps p.tables e below (s₁.setTop (mkF m 35 #[.val (.int p1)] [])) _
              refine XS.iloadN X0.here hx rfl (hb hby d1_35) rfl ?_
              show Steps p.tables e below (s₁.setTop (mkF m 36 #[.val (.int p1)] [(.int p1)])) _
              refine XS.iconst X0.here hx rfl (hb hby d1_36) ?_
              exact k)
          by_cases hc14 : p1 = (4 : Int32)
          · obtain ⟨T15, X15, e15, st15⟩ := getS2 X0 hx hZ hown (host := "") (Or.inl (hw _ (List.mem_of_getElem? (i := 8) rfl))) Via.refl e0 S_SUCCEEDED (g := (mkF m 40 #[.val (.int p1)] [])) rfl (hb hby d1_40)
            obtain ⟨fs, hr, hrun, hended, hW, hsame⟩ := X15.leave (v := some (.ref w_SUCCEEDED)) (fun h => by rw [Bd.returns] at h; cases h)
            refine ⟨_, _, pre13 _ ?_, hrun, hended, _, _, rfl, ?_, ⟨_, rfl⟩, hW, hsame.mono (by decide) (by decide)⟩
            · show Steps p.tables e below (s₁.setTop (mkF m 37 #[.val (.int p1)] [(.int (4 : Int32)), (.int p1)])) _
              refine XS.icmpNo X0.here hx rfl (hb hby d1_37) rfl (teq hc14).2 ?_
              show Steps p.tables e below (s₁.setTop (mkF m 40 #[.val (.int p1)] [])) _
              refine st15 _ ?_
              show Steps p.tables e below (T15.setTop (mkF m 43 #[.val (.int p1)] [(.ref w_SUCCEEDED)])) _
              jvm_step X15.here [X15.here.top, hx, (hb hby d1_43), X15.method', Bd.returns, Value.isRef, FieldType.isReference]
              first | (intro acts; rw [hr _ acts rfl rfl rfl]) | rw [hr _ _ rfl rfl rfl]
              exact Steps.refl _
            · show Q_rm1 Z p1 w_IDLE w_READY w_RUNNING w_WAITING w_SUCCEEDED w_FAILED w_CANCELED r h0 n0 _ T15.heap _
              rw [e15]
              exact ⟨by rw [← hret]; simp only [pickA, if_neg hc2, if_neg hc5, if_neg hc8, if_neg hc11, if_pos hc14], N0, rfl⟩
          · have pre16 : ∀ t, Steps p.tables e below (s₁.setTop (mkF m 46 #[.val (.int p1)] [(.int (5 : Int32)), (.int p1)])) t → Steps p.tables e below (s₁.setTop (entryFrame m #[(.int p1)] 1)) t := fun t k => pre13 t (by
                show Steps p.tables e below (s₁.setTop (mkF m 37 #[.val (.int p1)] [(.int (4 : Int32)), (.int p1)])) _
                refine XS.icmpYes X0.here hx rfl (pc0 := 37) (pc' := 44) rfl (hb hby d1_37) rfl (feq hc14).2 (by decide) (by decide) ?_
                show Steps p.tables e below (s₁.setTop (mkF m 44 #[.val (.int p1)] [])) _
                refine XS.iloadN X0.here hx rfl (hb hby d1_44) rfl ?_
                show Steps p.tables e below (s₁.setTop (mkF m 45 #[.val (.int p1)] [(.int p1)])) _
                refine XS.iconst X0.here hx rfl (hb hby d1_45) ?_
                exact k)
            by_cases hc17 : p1 = (5 : Int32)
            · obtain ⟨T18, X18, e18, st18⟩ := getS2 X0 hx hZ hown (host := "") (Or.inl (hw _ (List.mem_of_getElem? (i := 10) rfl))) Via.refl e0 S_FAILED (g := (mkF m 49 #[.val (.int p1)] [])) rfl (hb hby d1_49)
              obtain ⟨fs, hr, hrun, hended, hW, hsame⟩ := X18.leave (v := some (.ref w_FAILED)) (fun h => by rw [Bd.returns] at h; cases h)
              refine ⟨_, _, pre16 _ ?_, hrun, hended, _, _, rfl, ?_, ⟨_, rfl⟩, hW, hsame.mono (by decide) (by decide)⟩
              · show Steps p.tables e below (s₁.setTop (mkF m 46 #[.val (.int p1)] [(.int (5 : Int32)), (.int p1)])) _
                refine XS.icmpNo X0.here hx rfl (hb hby d1_46) rfl (teq hc17).2 ?_
                show Steps p.tables e below (s₁.setTop (mkF m 49 #[.val (.int p1)] [])) _
                refine st18 _ ?_
                show Steps p.tables e below (T18.setTop (mkF m 52 #[.val (.int p1)] [(.ref w_FAILED)])) _
                jvm_step X18.here [X18.here.top, hx, (hb hby d1_52), X18.method', Bd.returns, Value.isRef, FieldType.isReference]
                first | (intro acts; rw [hr _ acts rfl rfl rfl]) | rw [hr _ _ rfl rfl rfl]
                exact Steps.refl _
              · show Q_rm1 Z p1 w_IDLE w_READY w_RUNNING w_WAITING w_SUCCEEDED w_FAILED w_CANCELED r h0 n0 _ T18.heap _
                rw [e18]
                exact ⟨by rw [← hret]; simp only [pickA, if_neg hc2, if_neg hc5, if_neg hc8, if_neg hc11, if_neg hc14, if_pos hc17], N0, rfl⟩
            · obtain ⟨T19, X19, e19, st19⟩ := getS2 X0 hx hZ hown (host := "") (Or.inl (hw _ (List.mem_of_getElem? (i := 12) rfl))) Via.refl e0 S_CANCELED (g := (mkF m 53 #[.val (.int p1)] [])) rfl (hb hby d1_53)
              obtain ⟨fs, hr, hrun, hended, hW, hsame⟩ := X19.leave (v := some (.ref w_CANCELED)) (fun h => by rw [Bd.returns] at h; cases h)
              refine ⟨_, _, pre16 _ ?_, hrun, hended, _, _, rfl, ?_, ⟨_, rfl⟩, hW, hsame.mono (by decide) (by decide)⟩
              · show Steps p.tables e below (s₁.setTop (mkF m 46 #[.val (.int p1)] [(.int (5 : Int32)), (.int p1)])) _
                refine XS.icmpYes X0.here hx rfl (pc0 := 46) (pc' := 53) rfl (hb hby d1_46) rfl (feq hc17).2 (by decide) (by decide) ?_
                show Steps p.tables e below (s₁.setTop (mkF m 53 #[.val (.int p1)] [])) _
                refine st19 _ ?_
                show Steps p.tables e below (T19.setTop (mkF m 56 #[.val (.int p1)] [(.ref w_CANCELED)])) _
                jvm_step X19.here [X19.here.top, hx, (hb hby d1_56), X19.method', Bd.returns, Value.isRef, FieldType.isReference]
                first | (intro acts; rw [hr _ acts rfl rfl rfl]) | rw [hr _ _ rfl rfl rfl]
                exact Steps.refl _
              · show Q_rm1 Z p1 w_IDLE w_READY w_RUNNING w_WAITING w_SUCCEEDED w_FAILED w_CANCELED r h0 n0 _ T19.heap _
                rw [e19]
                exact ⟨by rw [← hret]; simp only [pickA, if_neg hc2, if_neg hc5, if_neg hc8, if_neg hc11, if_neg hc14, if_neg hc17], N0, rfl⟩
theorem pn_rm0 : plainName "com/example/nevermind/nevermind/reducer/NodeStatusIsFinalPinLaw" = true := by first | (simp [plainName, overriddenIn]; done) | decide +kernel
theorem pd_rm0_0 : parseMethodDescriptor "(I)Lcom/example/nevermind/nevermind/reducer/NodeStatus;" = some ⟨[.int], some (.object "com/example/nevermind/nevermind/reducer/NodeStatus")⟩ := by decide +kernel
theorem pd_rm0_1 : parseMethodDescriptor "()Z" = some ⟨[], some .boolean⟩ := by decide +kernel
theorem ef_rm0 (m : MethodId) (p1 : Int32) : entryFrame m #[(.int p1)] maxLocals = mkF m 0 #[.val (.int p1), .unset, .unset, .unset] [] := by first | (simp [entryFrame, mkF, argsToLocals, Value.category, maxLocals]; done) | rfl
def Q_rm0 (Z : State) (p1 : Int32) (w_IDLE : Addr) (w_READY : Addr) (w_RUNNING : Addr) (w_WAITING : Addr) (w_SUCCEEDED : Addr) (w_FAILED : Addr) (w_CANCELED : Addr) (mr : Addr) (h0 : Heap) (n0 : Nat) (v : Option Value) (h : Heap) (L : List Loc) : Prop := v = some (.int (1 : Int32)) ∧ Fr n0 L
set_option maxRecDepth 65536 in
set_option maxHeartbeats 40000000 in
theorem rm0 (l : Launch) (Z : State) (a0 : Array Value) (hw : ∀ d ∈ tables_1, d.before a0 Z = true) (ws : List Jvm.Cond) (p1 : Int32) (w_IDLE : Addr) (w_READY : Addr) (w_RUNNING : Addr) (w_WAITING : Addr) (w_SUCCEEDED : Addr) (w_FAILED : Addr) (w_CANCELED : Addr) (mr : Addr) (h0 : Heap) (n0 : Nat) (Z0 : n0 ≤ h0.size) (S_IDLE : Sta Z h0 "com/example/nevermind/nevermind/reducer/NodeStatus" "IDLE" "Lcom/example/nevermind/nevermind/reducer/NodeStatus;" (.ref w_IDLE)) (S_READY : Sta Z h0 "com/example/nevermind/nevermind/reducer/NodeStatus" "READY" "Lcom/example/nevermind/nevermind/reducer/NodeStatus;" (.ref w_READY)) (S_RUNNING : Sta Z h0 "com/example/nevermind/nevermind/reducer/NodeStatus" "RUNNING" "Lcom/example/nevermind/nevermind/reducer/NodeStatus;" (.ref w_RUNNING)) (S_WAITING : Sta Z h0 "com/example/nevermind/nevermind/reducer/NodeStatus" "WAITING" "Lcom/example/nevermind/nevermind/reducer/NodeStatus;" (.ref w_WAITING)) (S_SUCCEEDED : Sta Z h0 "com/example/nevermind/nevermind/reducer/NodeStatus" "SUCCEEDED" "Lcom/example/nevermind/nevermind/reducer/NodeStatus;" (.ref w_SUCCEEDED)) (S_FAILED : Sta Z h0 "com/example/nevermind/nevermind/reducer/NodeStatus" "FAILED" "Lcom/example/nevermind/nevermind/reducer/NodeStatus;" (.ref w_FAILED)) (S_CANCELED : Sta Z h0 "com/example/nevermind/nevermind/reducer/NodeStatus" "CANCELED" "Lcom/example/nevermind/nevermind/reducer/NodeStatus;" (.ref w_CANCELED)) (E_IDLE : Exa Z h0 w_IDLE "com/example/nevermind/nevermind/reducer/NodeStatus") (E_READY : Exa Z h0 w_READY "com/example/nevermind/nevermind/reducer/NodeStatus") (E_RUNNING : Exa Z h0 w_RUNNING "com/example/nevermind/nevermind/reducer/NodeStatus") (E_WAITING : Exa Z h0 w_WAITING "com/example/nevermind/nevermind/reducer/NodeStatus") (E_SUCCEEDED : Exa Z h0 w_SUCCEEDED "com/example/nevermind/nevermind/reducer/NodeStatus") (E_FAILED : Exa Z h0 w_FAILED "com/example/nevermind/nevermind/reducer/NodeStatus") (E_CANCELED : Exa Z h0 w_CANCELED "com/example/nevermind/nevermind/reducer/NodeStatus") (O_IDLE : Fld Z h0 w_IDLE "java/lang/Enum" "ordinal" "I" (.int (0 : Int32))) (O_READY : Fld Z h0 w_READY "java/lang/Enum" "ordinal" "I" (.int (1 : Int32))) (O_RUNNING : Fld Z h0 w_RUNNING "java/lang/Enum" "ordinal" "I" (.int (2 : Int32))) (O_WAITING : Fld Z h0 w_WAITING "java/lang/Enum" "ordinal" "I" (.int (3 : Int32))) (O_SUCCEEDED : Fld Z h0 w_SUCCEEDED "java/lang/Enum" "ordinal" "I" (.int (4 : Int32))) (O_FAILED : Fld Z h0 w_FAILED "java/lang/Enum" "ordinal" "I" (.int (5 : Int32))) (O_CANCELED : Fld Z h0 w_CANCELED "java/lang/Enum" "ordinal" "I" (.int (6 : Int32))) (M : Mir Z "com/example/nevermind/nevermind/reducer/NodeStatus" mr) :
    MetFree l x (head1 (Jvm.Cond.code x code maxLocals ret :: ws) room_1) (fun a U => a = #[(.int p1)] ∧ Z.Warmed39 U.vm ∧ U.heap = h0) (fun _ _ _ _ _ => True) (fun _ U o U' => ∃ v L, o = .returned v ∧ Q_rm0 Z p1 w_IDLE w_READY w_RUNNING w_WAITING w_SUCCEEDED w_FAILED w_CANCELED mr h0 n0 v U'.heap L ∧ FrameEnd U o U' L room_1.cells room_1.slots) := by
  refine MetFree.of_bodySF (plainFor_of_name pn_rm0) hisR ?_
  intro p e s m args below meth c s₁ Bd hml0 hP hK
  obtain ⟨rfl, hZ, hh⟩ := hP
  have hx := Bd.exec
  have hby := Bd.bytes
  have hml : c.maxLocals = 4 := hml0
  have hown : s.vm.findClass "com/example/nevermind/nevermind/reducer/NodeStatusIsFinalPinLaw" = some m.cls := findClass_of_methodNamed Bd.named
  have hnm := (name_of_methodNamed Bd.named Bd.method).1
  have X0 : Stand p l e room_1 s m #[(.int p1)] below meth c s₁ [] 0 0 := Stand.of_body Bd
  have e0 : s₁.heap = h0 := by rw [← hh, Bd.state]; rfl
  have N0 := Fr.nil n0
  have pre0 : ∀ t, Steps p.tables e below (s₁.setTop (mkF m 0 #[.val (.int p1), .unset, .unset, .unset] [])) t → Steps p.tables e below (s₁.setTop (entryFrame m #[(.int p1)] maxLocals)) t := fun t k => castTop (ef_rm0 m p1) k
  have pre1 : ∀ t, Steps p.tables e below (s₁.setTop (mkF m 7 #[.val (.int p1), .unset, .unset, .unset] [(.int ((p1 &&& (2147483647 : Int32)) % (7 : Int32)))])) t → Steps p.tables e below (s₁.setTop (entryFrame m #[(.int p1)] maxLocals)) t := fun t k => pre0 t (by
      show Steps p.tables e below (s₁.setTop (mkF m 0 #[.val (.int p1), .unset, .unset, .unset] [])) _
      refine XS.iloadN X0.here hx rfl (hb hby at_0) rfl ?_
      show Steps p.tables e below (s₁.setTop (mkF m 1 #[.val (.int p1), .unset, .unset, .unset] [(.int p1)])) _
      refine X0.ldcInt hx hown (mvT hZ (hw _ (List.mem_of_getElem? (i := 0) rfl))) (g := (mkF m 1 #[.val (.int p1), .unset, .unset, .unset] [(.int p1)])) rfl (hb hby at_1) _ ?_
      show Steps p.tables e below (s₁.setTop (mkF m 3 #[.val (.int p1), .unset, .unset, .unset] [(.int (2147483647 : Int32)), (.int p1)])) _
      refine XS.iand X0.here hx rfl (hb hby at_3) rfl ?_
      show Steps p.tables e below (s₁.setTop (mkF m 4 #[.val (.int p1), .unset, .unset, .unset] [(.int (p1 &&& (2147483647 : Int32)))])) _
      refine XS.bipush X0.here hx rfl (hb hby at_4) ?_
      show Steps p.tables e below (s₁.setTop (mkF m 6 #[.val (.int p1), .unset, .unset, .unset] [(.int (7 : Int32)), (.int (p1 &&& (2147483647 : Int32)))])) _
      refine Jvm.RoadKit.iremM (g := (mkF m 6 #[.val (.int p1), .unset, .unset, .unset] [(.int (7 : Int32)), (.int (p1 &&& (2147483647 : Int32)))])) X0 hx rfl (hb hby at_6) rfl (by decide) ?_
      exact k)
  have hbnd := own_rem p1 (7 : Int32) 7 rfl (by decide)
  rcases own_casesN hbnd.1 hbnd.2 with hk | hk | hk | hk | hk | hk | hk
  · have pre2 : ∀ t, Steps p.tables e below (s₁.setTop (mkF m 7 #[.val (.int p1), .unset, .unset, .unset] [(.int (0 : Int32))])) t → Steps p.tables e below (s₁.setTop (entryFrame m #[(.int p1)] maxLocals)) t := fun t k => pre1 t (by rw [hk]; exact k)
    obtain ⟨_, _, ⟨T3, L3, k3, n3⟩, -, X3, ⟨Lc3, hQ3, l3, y3, z3⟩, st3⟩ := Jvm.LawKit.callS X0 hx (y := (⟨"com/example/nevermind/nevermind/reducer/NodeStatusIsFinalPinLaw", "pick", "(I)Lcom/example/nevermind/nevermind/reducer/NodeStatus;"⟩ : MethodName)) hown (mvT hZ (hw _ (List.mem_of_getElem? (i := 1) rfl))) (mvT hZ (hw _ (List.mem_of_getElem? (i := 2) rfl))) (mvT hZ (hw _ (List.mem_of_getElem? (i := 3) rfl))) (mvT hZ (hw _ (List.mem_of_getElem? (i := 4) rfl))) (by decide) (backOf (W := 0) (rm1 l Z a0 hw [] (0 : Int32) w_IDLE w_READY w_RUNNING w_WAITING w_SUCCEEDED w_FAILED w_CANCELED w_IDLE h0 n0 Z0 S_IDLE S_READY S_RUNNING S_WAITING S_SUCCEEDED S_FAILED S_CANCELED rfl) hZ (hw _ (List.mem_of_getElem? (i := 4) rfl)) (hw _ (List.mem_of_getElem? (i := 3) rfl)) (by decide) (by decide)) (g := (mkF m 9 #[.val (.int p1), .val (.int (0 : Int32)), .unset, .unset] [(.int (0 : Int32))])) rfl (by rw [hml]; rfl) (argsL := [(.int (0 : Int32))]) (rest := []) (lenOf pd_rm0_0 rfl) rfl (by show 2 * 0 + _ ≤ _; exact Nat.le_of_eq rfl) (hb hby at_9) (fun _ _ => ⟨rfl, e0, (by decide : 0 + 0 ≤ _), (by decide : 0 + 0 ≤ _)⟩)
    dsimp only [Pt.U, Pt.locs, Pt.cells, Pt.slots] at X3 l3 y3 z3 st3 hQ3
    subst l3 y3 z3
    obtain ⟨rfl, N3q, e3⟩ := hQ3
    have N3 := Fr.app N0 N3q
    obtain ⟨T4, X4, e4, st4⟩ := getS2 X3 hx hZ hown (host := "") (Or.inl (hw _ (List.mem_of_getElem? (i := 8) rfl))) Via.refl e3 S_SUCCEEDED (g := (mkF m 14 #[.val (.int p1), .val (.int (0 : Int32)), .val (.ref w_IDLE), .unset] [(.ref w_IDLE)])) rfl (hb hby at_14)
    obtain ⟨T5, X5, e5, st5⟩ := getS2 X4 hx hZ hown (host := "") (Or.inl (hw _ (List.mem_of_getElem? (i := 10) rfl))) Via.refl e4 S_FAILED (g := (mkF m 21 #[.val (.int p1), .val (.int (0 : Int32)), .val (.ref w_IDLE), .unset] [(.ref w_IDLE)])) rfl (hb hby at_21)
    obtain ⟨T6, X6, e6, st6⟩ := getS2 X5 hx hZ hown (host := "") (Or.inl (hw _ (List.mem_of_getElem? (i := 12) rfl))) Via.refl e5 S_CANCELED (g := (mkF m 28 #[.val (.int p1), .val (.int (0 : Int32)), .val (.ref w_IDLE), .unset] [(.ref w_IDLE)])) rfl (hb hby at_28)
    obtain ⟨cq7, kq7, q7a, q7b, q7c⟩ := isOf hZ e6 E_IDLE
    obtain ⟨_, _, ⟨T7, L7, k7, n7⟩, -, X7, ⟨Lc7, hQ7, l7, y7, z7⟩, st7⟩ := X6.virtualBack hx (y := (⟨"com/example/nevermind/nevermind/reducer/NodeStatus", "isFinal", "()Z"⟩ : MethodName)) (z := (⟨"com/example/nevermind/nevermind/reducer/NodeStatus", "isFinal", "()Z"⟩ : MethodName)) hown (mvT hZ (hw _ (List.mem_of_getElem? (i := 14) rfl))) (mvT hZ (hw _ (List.mem_of_getElem? (i := 15) rfl))) (notFace_of_selects (args := #[]) (mvT hZ (hw _ (List.mem_of_getElem? (i := 17) rfl)))) (mvT hZ (hw _ (List.mem_of_getElem? (i := 17) rfl))) (mvT hZ (hw _ (List.mem_of_getElem? (i := 16) rfl))) (by decide) (backOf (W := 0) (rmF0 l Z a0 hw [] w_IDLE w_SUCCEEDED mr h0 n0 Z0 E_IDLE E_SUCCEEDED O_IDLE O_SUCCEEDED M S_SUCCEEDED) hZ (hw _ (List.mem_of_getElem? (i := 18) rfl)) (hw _ (List.mem_of_getElem? (i := 6) rfl)) (by decide) (by decide)) q7a q7c (g := (mkF m 41 #[.val (.int p1), .val (.int (0 : Int32)), .val (.ref w_IDLE), .val (.int (0 : Int32))] [(.ref w_IDLE)])) rfl (by rw [hml]; rfl) (Steps.refl _) (argsL := []) (rest := []) (lenOf pd_rm0_1 rfl) rfl (by show 2 * 0 + _ ≤ _; exact Nat.le_of_eq rfl) (hb hby at_41) (fun _ _ => ⟨rfl, e6, (by decide : 0 + 0 ≤ _), (by decide : 0 + 0 ≤ _)⟩)
    dsimp only [Pt.U, Pt.locs, Pt.cells, Pt.slots] at X7 l7 y7 z7 st7 hQ7
    subst l7 y7 z7
    obtain ⟨rfl, N7q, e7⟩ := hQ7
    have N7 := Fr.app N3 N7q
    obtain ⟨fs, hr, hrun, hended, hW, hsame⟩ := X7.leave (v := some (.int (1 : Int32))) (fun h => by rw [Bd.returns] at h; cases h)
    refine ⟨_, _, pre2 _ ?_, hrun, hended, _, _, rfl, ?_, ⟨_, rfl⟩, hW, hsame.mono (by decide) (by decide)⟩
    · show Steps p.tables e below (s₁.setTop (mkF m 7 #[.val (.int p1), .unset, .unset, .unset] [(.int (0 : Int32))])) _
      refine XS.istoreN X0.here hx rfl (hb hby at_7) rfl (l' := #[.val (.int p1), .val (.int (0 : Int32)), .unset, .unset]) rfl ?_
      show Steps p.tables e below (s₁.setTop (mkF m 8 #[.val (.int p1), .val (.int (0 : Int32)), .unset, .unset] [])) _
      refine XS.iloadN X0.here hx rfl (hb hby at_8) rfl ?_
      show Steps p.tables e below (s₁.setTop (mkF m 9 #[.val (.int p1), .val (.int (0 : Int32)), .unset, .unset] [(.int (0 : Int32))])) _
      refine st3 _ ?_
      show Steps p.tables e below (T3.setTop (mkF m 12 #[.val (.int p1), .val (.int (0 : Int32)), .unset, .unset] [(.ref w_IDLE)])) _
      refine XS.astoreN X3.here hx rfl (hb hby at_12) rfl rfl (l' := #[.val (.int p1), .val (.int (0 : Int32)), .val (.ref w_IDLE), .unset]) rfl ?_
      show Steps p.tables e below (T3.setTop (mkF m 13 #[.val (.int p1), .val (.int (0 : Int32)), .val (.ref w_IDLE), .unset] [])) _
      refine XS.aloadN X3.here hx rfl (hb hby at_13) rfl rfl ?_
      show Steps p.tables e below (T3.setTop (mkF m 14 #[.val (.int p1), .val (.int (0 : Int32)), .val (.ref w_IDLE), .unset] [(.ref w_IDLE)])) _
      refine st4 _ ?_
      show Steps p.tables e below (T4.setTop (mkF m 17 #[.val (.int p1), .val (.int (0 : Int32)), .val (.ref w_IDLE), .unset] [(.ref w_SUCCEEDED), (.ref w_IDLE)])) _
      refine Jvm.RoadKit.acmp (g := (mkF m 17 #[.val (.int p1), .val (.int (0 : Int32)), .val (.ref w_IDLE), .unset] [(.ref w_SUCCEEDED), (.ref w_IDLE)])) X4 hx rfl rfl rfl (pc0 := 17) (pc' := 20) (same := false) rfl (hb hby at_17) rfl (decide_eq_false fun q => (own_ne O_IDLE O_SUCCEEDED (by decide)) (Value.ref.inj q)) (by decide) (by decide) ?_
      show Steps p.tables e below (T4.setTop (mkF m 20 #[.val (.int p1), .val (.int (0 : Int32)), .val (.ref w_IDLE), .unset] [])) _
      refine XS.aloadN X4.here hx rfl (hb hby at_20) rfl rfl ?_
      show Steps p.tables e below (T4.setTop (mkF m 21 #[.val (.int p1), .val (.int (0 : Int32)), .val (.ref w_IDLE), .unset] [(.ref w_IDLE)])) _
      refine st5 _ ?_
      show Steps p.tables e below (T5.setTop (mkF m 24 #[.val (.int p1), .val (.int (0 : Int32)), .val (.ref w_IDLE), .unset] [(.ref w_FAILED), (.ref w_IDLE)])) _
      refine Jvm.RoadKit.acmp (g := (mkF m 24 #[.val (.int p1), .val (.int (0 : Int32)), .val (.ref w_IDLE), .unset] [(.ref w_FAILED), (.ref w_IDLE)])) X5 hx rfl rfl rfl (pc0 := 24) (pc' := 27) (same := false) rfl (hb hby at_24) rfl (decide_eq_false fun q => (own_ne O_IDLE O_FAILED (by decide)) (Value.ref.inj q)) (by decide) (by decide) ?_
      show Steps p.tables e below (T5.setTop (mkF m 27 #[.val (.int p1), .val (.int (0 : Int32)), .val (.ref w_IDLE), .unset] [])) _
      refine XS.aloadN X5.here hx rfl (hb hby at_27) rfl rfl ?_
      show Steps p.tables e below (T5.setTop (mkF m 28 #[.val (.int p1), .val (.int (0 : Int32)), .val (.ref w_IDLE), .unset] [(.ref w_IDLE)])) _
      refine st6 _ ?_
      show Steps p.tables e below (T6.setTop (mkF m 31 #[.val (.int p1), .val (.int (0 : Int32)), .val (.ref w_IDLE), .unset] [(.ref w_CANCELED), (.ref w_IDLE)])) _
      refine Jvm.RoadKit.acmp (g := (mkF m 31 #[.val (.int p1), .val (.int (0 : Int32)), .val (.ref w_IDLE), .unset] [(.ref w_CANCELED), (.ref w_IDLE)])) X6 hx rfl rfl rfl (pc0 := 31) (pc' := 38) (same := false) rfl (hb hby at_31) rfl (decide_eq_false fun q => (own_ne O_IDLE O_CANCELED (by decide)) (Value.ref.inj q)) (by decide) (by decide) ?_
      show Steps p.tables e below (T6.setTop (mkF m 38 #[.val (.int p1), .val (.int (0 : Int32)), .val (.ref w_IDLE), .unset] [])) _
      refine XS.iconst X6.here hx rfl (hb hby at_38) ?_
      show Steps p.tables e below (T6.setTop (mkF m 39 #[.val (.int p1), .val (.int (0 : Int32)), .val (.ref w_IDLE), .unset] [(.int (0 : Int32))])) _
      refine XS.istoreN X6.here hx rfl (hb hby at_39) rfl (l' := #[.val (.int p1), .val (.int (0 : Int32)), .val (.ref w_IDLE), .val (.int (0 : Int32))]) rfl ?_
      show Steps p.tables e below (T6.setTop (mkF m 40 #[.val (.int p1), .val (.int (0 : Int32)), .val (.ref w_IDLE), .val (.int (0 : Int32))] [])) _
      refine XS.aloadN X6.here hx rfl (hb hby at_40) rfl rfl ?_
      show Steps p.tables e below (T6.setTop (mkF m 41 #[.val (.int p1), .val (.int (0 : Int32)), .val (.ref w_IDLE), .val (.int (0 : Int32))] [(.ref w_IDLE)])) _
      refine st7.trans ?_
      show Steps p.tables e below (T7.setTop (mkF m 44 #[.val (.int p1), .val (.int (0 : Int32)), .val (.ref w_IDLE), .val (.int (0 : Int32))] [(.int (0 : Int32))])) _
      refine XS.iloadN X7.here hx rfl (hb hby at_44) rfl ?_
      show Steps p.tables e below (T7.setTop (mkF m 45 #[.val (.int p1), .val (.int (0 : Int32)), .val (.ref w_IDLE), .val (.int (0 : Int32))] [(.int (0 : Int32)), (.int (0 : Int32))])) _
      refine XS.icmpNo X7.here hx rfl (hb hby at_45) rfl (teq (rfl : (0 : Int32) = (0 : Int32))).2 ?_
      show Steps p.tables e below (T7.setTop (mkF m 48 #[.val (.int p1), .val (.int (0 : Int32)), .val (.ref w_IDLE), .val (.int (0 : Int32))] [])) _
      refine XS.iconst X7.here hx rfl (hb hby at_48) ?_
      show Steps p.tables e below (T7.setTop (mkF m 49 #[.val (.int p1), .val (.int (0 : Int32)), .val (.ref w_IDLE), .val (.int (0 : Int32))] [(.int (1 : Int32))])) _
      refine XS.goto X7.here hx rfl (pc0 := 49) (pc' := 53) rfl (hb hby at_49) (by decide) (by decide) ?_
      show Steps p.tables e below (T7.setTop (mkF m 53 #[.val (.int p1), .val (.int (0 : Int32)), .val (.ref w_IDLE), .val (.int (0 : Int32))] [(.int (1 : Int32))])) _
      exact retN X7 hx (t := .boolean) Bd.returns (by simp) (hb hby at_53) hr
    · show Q_rm0 Z p1 w_IDLE w_READY w_RUNNING w_WAITING w_SUCCEEDED w_FAILED w_CANCELED mr h0 n0 _ T7.heap _
      rw [e7]
      exact ⟨rfl, N7⟩
  · have pre8 : ∀ t, Steps p.tables e below (s₁.setTop (mkF m 7 #[.val (.int p1), .unset, .unset, .unset] [(.int (1 : Int32))])) t → Steps p.tables e below (s₁.setTop (entryFrame m #[(.int p1)] maxLocals)) t := fun t k => pre1 t (by rw [hk]; exact k)
    obtain ⟨_, _, ⟨T9, L9, k9, n9⟩, -, X9, ⟨Lc9, hQ9, l9, y9, z9⟩, st9⟩ := Jvm.LawKit.callS X0 hx (y := (⟨"com/example/nevermind/nevermind/reducer/NodeStatusIsFinalPinLaw", "pick", "(I)Lcom/example/nevermind/nevermind/reducer/NodeStatus;"⟩ : MethodName)) hown (mvT hZ (hw _ (List.mem_of_getElem? (i := 1) rfl))) (mvT hZ (hw _ (List.mem_of_getElem? (i := 2) rfl))) (mvT hZ (hw _ (List.mem_of_getElem? (i := 3) rfl))) (mvT hZ (hw _ (List.mem_of_getElem? (i := 4) rfl))) (by decide) (backOf (W := 0) (rm1 l Z a0 hw [] (1 : Int32) w_IDLE w_READY w_RUNNING w_WAITING w_SUCCEEDED w_FAILED w_CANCELED w_READY h0 n0 Z0 S_IDLE S_READY S_RUNNING S_WAITING S_SUCCEEDED S_FAILED S_CANCELED rfl) hZ (hw _ (List.mem_of_getElem? (i := 4) rfl)) (hw _ (List.mem_of_getElem? (i := 3) rfl)) (by decide) (by decide)) (g := (mkF m 9 #[.val (.int p1), .val (.int (1 : Int32)), .unset, .unset] [(.int (1 : Int32))])) rfl (by rw [hml]; rfl) (argsL := [(.int (1 : Int32))]) (rest := []) (lenOf pd_rm0_0 rfl) rfl (by show 2 * 0 + _ ≤ _; exact Nat.le_of_eq rfl) (hb hby at_9) (fun _ _ => ⟨rfl, e0, (by decide : 0 + 0 ≤ _), (by decide : 0 + 0 ≤ _)⟩)
    dsimp only [Pt.U, Pt.locs, Pt.cells, Pt.slots] at X9 l9 y9 z9 st9 hQ9
    subst l9 y9 z9
    obtain ⟨rfl, N9q, e9⟩ := hQ9
    have N9 := Fr.app N0 N9q
    obtain ⟨T10, X10, e10, st10⟩ := getS2 X9 hx hZ hown (host := "") (Or.inl (hw _ (List.mem_of_getElem? (i := 8) rfl))) Via.refl e9 S_SUCCEEDED (g := (mkF m 14 #[.val (.int p1), .val (.int (1 : Int32)), .val (.ref w_READY), .unset] [(.ref w_READY)])) rfl (hb hby at_14)
    obtain ⟨T11, X11, e11, st11⟩ := getS2 X10 hx hZ hown (host := "") (Or.inl (hw _ (List.mem_of_getElem? (i := 10) rfl))) Via.refl e10 S_FAILED (g := (mkF m 21 #[.val (.int p1), .val (.int (1 : Int32)), .val (.ref w_READY), .unset] [(.ref w_READY)])) rfl (hb hby at_21)
    obtain ⟨T12, X12, e12, st12⟩ := getS2 X11 hx hZ hown (host := "") (Or.inl (hw _ (List.mem_of_getElem? (i := 12) rfl))) Via.refl e11 S_CANCELED (g := (mkF m 28 #[.val (.int p1), .val (.int (1 : Int32)), .val (.ref w_READY), .unset] [(.ref w_READY)])) rfl (hb hby at_28)
    obtain ⟨cq13, kq13, q13a, q13b, q13c⟩ := isOf hZ e12 E_READY
    obtain ⟨_, _, ⟨T13, L13, k13, n13⟩, -, X13, ⟨Lc13, hQ13, l13, y13, z13⟩, st13⟩ := X12.virtualBack hx (y := (⟨"com/example/nevermind/nevermind/reducer/NodeStatus", "isFinal", "()Z"⟩ : MethodName)) (z := (⟨"com/example/nevermind/nevermind/reducer/NodeStatus", "isFinal", "()Z"⟩ : MethodName)) hown (mvT hZ (hw _ (List.mem_of_getElem? (i := 14) rfl))) (mvT hZ (hw _ (List.mem_of_getElem? (i := 15) rfl))) (notFace_of_selects (args := #[]) (mvT hZ (hw _ (List.mem_of_getElem? (i := 17) rfl)))) (mvT hZ (hw _ (List.mem_of_getElem? (i := 17) rfl))) (mvT hZ (hw _ (List.mem_of_getElem? (i := 16) rfl))) (by decide) (backOf (W := 0) (rmF1 l Z a0 hw [] w_READY w_SUCCEEDED mr h0 n0 Z0 E_READY E_SUCCEEDED O_READY O_SUCCEEDED M S_SUCCEEDED) hZ (hw _ (List.mem_of_getElem? (i := 18) rfl)) (hw _ (List.mem_of_getElem? (i := 6) rfl)) (by decide) (by decide)) q13a q13c (g := (mkF m 41 #[.val (.int p1), .val (.int (1 : Int32)), .val (.ref w_READY), .val (.int (0 : Int32))] [(.ref w_READY)])) rfl (by rw [hml]; rfl) (Steps.refl _) (argsL := []) (rest := []) (lenOf pd_rm0_1 rfl) rfl (by show 2 * 0 + _ ≤ _; exact Nat.le_of_eq rfl) (hb hby at_41) (fun _ _ => ⟨rfl, e12, (by decide : 0 + 0 ≤ _), (by decide : 0 + 0 ≤ _)⟩)
    dsimp only [Pt.U, Pt.locs, Pt.cells, Pt.slots] at X13 l13 y13 z13 st13 hQ13
    subst l13 y13 z13
    obtain ⟨rfl, N13q, e13⟩ := hQ13
    have N13 := Fr.app N9 N13q
    obtain ⟨fs, hr, hrun, hended, hW, hsame⟩ := X13.leave (v := some (.int (1 : Int32))) (fun h => by rw [Bd.returns] at h; cases h)
    refine ⟨_, _, pre8 _ ?_, hrun, hended, _, _, rfl, ?_, ⟨_, rfl⟩, hW, hsame.mono (by decide) (by decide)⟩
    · show Steps p.tables e below (s₁.setTop (mkF m 7 #[.val (.int p1), .unset, .unset, .unset] [(.int (1 : Int32))])) _
      refine XS.istoreN X0.here hx rfl (hb hby at_7) rfl (l' := #[.val (.int p1), .val (.int (1 : Int32)), .unset, .unset]) rfl ?_
      show Steps p.tables e below (s₁.setTop (mkF m 8 #[.val (.int p1), .val (.int (1 : Int32)), .unset, .unset] [])) _
      refine XS.iloadN X0.here hx rfl (hb hby at_8) rfl ?_
      show Steps p.tables e below (s₁.setTop (mkF m 9 #[.val (.int p1), .val (.int (1 : Int32)), .unset, .unset] [(.int (1 : Int32))])) _
      refine st9 _ ?_
      show Steps p.tables e below (T9.setTop (mkF m 12 #[.val (.int p1), .val (.int (1 : Int32)), .unset, .unset] [(.ref w_READY)])) _
      refine XS.astoreN X9.here hx rfl (hb hby at_12) rfl rfl (l' := #[.val (.int p1), .val (.int (1 : Int32)), .val (.ref w_READY), .unset]) rfl ?_
      show Steps p.tables e below (T9.setTop (mkF m 13 #[.val (.int p1), .val (.int (1 : Int32)), .val (.ref w_READY), .unset] [])) _
      refine XS.aloadN X9.here hx rfl (hb hby at_13) rfl rfl ?_
      show Steps p.tables e below (T9.setTop (mkF m 14 #[.val (.int p1), .val (.int (1 : Int32)), .val (.ref w_READY), .unset] [(.ref w_READY)])) _
      refine st10 _ ?_
      show Steps p.tables e below (T10.setTop (mkF m 17 #[.val (.int p1), .val (.int (1 : Int32)), .val (.ref w_READY), .unset] [(.ref w_SUCCEEDED), (.ref w_READY)])) _
      refine Jvm.RoadKit.acmp (g := (mkF m 17 #[.val (.int p1), .val (.int (1 : Int32)), .val (.ref w_READY), .unset] [(.ref w_SUCCEEDED), (.ref w_READY)])) X10 hx rfl rfl rfl (pc0 := 17) (pc' := 20) (same := false) rfl (hb hby at_17) rfl (decide_eq_false fun q => (own_ne O_READY O_SUCCEEDED (by decide)) (Value.ref.inj q)) (by decide) (by decide) ?_
      show Steps p.tables e below (T10.setTop (mkF m 20 #[.val (.int p1), .val (.int (1 : Int32)), .val (.ref w_READY), .unset] [])) _
      refine XS.aloadN X10.here hx rfl (hb hby at_20) rfl rfl ?_
      show Steps p.tables e below (T10.setTop (mkF m 21 #[.val (.int p1), .val (.int (1 : Int32)), .val (.ref w_READY), .unset] [(.ref w_READY)])) _
      refine st11 _ ?_
      show Steps p.tables e below (T11.setTop (mkF m 24 #[.val (.int p1), .val (.int (1 : Int32)), .val (.ref w_READY), .unset] [(.ref w_FAILED), (.ref w_READY)])) _
      refine Jvm.RoadKit.acmp (g := (mkF m 24 #[.val (.int p1), .val (.int (1 : Int32)), .val (.ref w_READY), .unset] [(.ref w_FAILED), (.ref w_READY)])) X11 hx rfl rfl rfl (pc0 := 24) (pc' := 27) (same := false) rfl (hb hby at_24) rfl (decide_eq_false fun q => (own_ne O_READY O_FAILED (by decide)) (Value.ref.inj q)) (by decide) (by decide) ?_
      show Steps p.tables e below (T11.setTop (mkF m 27 #[.val (.int p1), .val (.int (1 : Int32)), .val (.ref w_READY), .unset] [])) _
      refine XS.aloadN X11.here hx rfl (hb hby at_27) rfl rfl ?_
      show Steps p.tables e below (T11.setTop (mkF m 28 #[.val (.int p1), .val (.int (1 : Int32)), .val (.ref w_READY), .unset] [(.ref w_READY)])) _
      refine st12 _ ?_
      show Steps p.tables e below (T12.setTop (mkF m 31 #[.val (.int p1), .val (.int (1 : Int32)), .val (.ref w_READY), .unset] [(.ref w_CANCELED), (.ref w_READY)])) _
      refine Jvm.RoadKit.acmp (g := (mkF m 31 #[.val (.int p1), .val (.int (1 : Int32)), .val (.ref w_READY), .unset] [(.ref w_CANCELED), (.ref w_READY)])) X12 hx rfl rfl rfl (pc0 := 31) (pc' := 38) (same := false) rfl (hb hby at_31) rfl (decide_eq_false fun q => (own_ne O_READY O_CANCELED (by decide)) (Value.ref.inj q)) (by decide) (by decide) ?_
      show Steps p.tables e below (T12.setTop (mkF m 38 #[.val (.int p1), .val (.int (1 : Int32)), .val (.ref w_READY), .unset] [])) _
      refine XS.iconst X12.here hx rfl (hb hby at_38) ?_
      show Steps p.tables e below (T12.setTop (mkF m 39 #[.val (.int p1), .val (.int (1 : Int32)), .val (.ref w_READY), .unset] [(.int (0 : Int32))])) _
      refine XS.istoreN X12.here hx rfl (hb hby at_39) rfl (l' := #[.val (.int p1), .val (.int (1 : Int32)), .val (.ref w_READY), .val (.int (0 : Int32))]) rfl ?_
      show Steps p.tables e below (T12.setTop (mkF m 40 #[.val (.int p1), .val (.int (1 : Int32)), .val (.ref w_READY), .val (.int (0 : Int32))] [])) _
      refine XS.aloadN X12.here hx rfl (hb hby at_40) rfl rfl ?_
      show Steps p.tables e below (T12.setTop (mkF m 41 #[.val (.int p1), .val (.int (1 : Int32)), .val (.ref w_READY), .val (.int (0 : Int32))] [(.ref w_READY)])) _
      refine st13.trans ?_
      show Steps p.tables e below (T13.setTop (mkF m 44 #[.val (.int p1), .val (.int (1 : Int32)), .val (.ref w_READY), .val (.int (0 : Int32))] [(.int (0 : Int32))])) _
      refine XS.iloadN X13.here hx rfl (hb hby at_44) rfl ?_
      show Steps p.tables e below (T13.setTop (mkF m 45 #[.val (.int p1), .val (.int (1 : Int32)), .val (.ref w_READY), .val (.int (0 : Int32))] [(.int (0 : Int32)), (.int (0 : Int32))])) _
      refine XS.icmpNo X13.here hx rfl (hb hby at_45) rfl (teq (rfl : (0 : Int32) = (0 : Int32))).2 ?_
      show Steps p.tables e below (T13.setTop (mkF m 48 #[.val (.int p1), .val (.int (1 : Int32)), .val (.ref w_READY), .val (.int (0 : Int32))] [])) _
      refine XS.iconst X13.here hx rfl (hb hby at_48) ?_
      show Steps p.tables e below (T13.setTop (mkF m 49 #[.val (.int p1), .val (.int (1 : Int32)), .val (.ref w_READY), .val (.int (0 : Int32))] [(.int (1 : Int32))])) _
      refine XS.goto X13.here hx rfl (pc0 := 49) (pc' := 53) rfl (hb hby at_49) (by decide) (by decide) ?_
      show Steps p.tables e below (T13.setTop (mkF m 53 #[.val (.int p1), .val (.int (1 : Int32)), .val (.ref w_READY), .val (.int (0 : Int32))] [(.int (1 : Int32))])) _
      exact retN X13 hx (t := .boolean) Bd.returns (by simp) (hb hby at_53) hr
    · show Q_rm0 Z p1 w_IDLE w_READY w_RUNNING w_WAITING w_SUCCEEDED w_FAILED w_CANCELED mr h0 n0 _ T13.heap _
      rw [e13]
      exact ⟨rfl, N13⟩
  · have pre14 : ∀ t, Steps p.tables e below (s₁.setTop (mkF m 7 #[.val (.int p1), .unset, .unset, .unset] [(.int (2 : Int32))])) t → Steps p.tables e below (s₁.setTop (entryFrame m #[(.int p1)] maxLocals)) t := fun t k => pre1 t (by rw [hk]; exact k)
    obtain ⟨_, _, ⟨T15, L15, k15, n15⟩, -, X15, ⟨Lc15, hQ15, l15, y15, z15⟩, st15⟩ := Jvm.LawKit.callS X0 hx (y := (⟨"com/example/nevermind/nevermind/reducer/NodeStatusIsFinalPinLaw", "pick", "(I)Lcom/example/nevermind/nevermind/reducer/NodeStatus;"⟩ : MethodName)) hown (mvT hZ (hw _ (List.mem_of_getElem? (i := 1) rfl))) (mvT hZ (hw _ (List.mem_of_getElem? (i := 2) rfl))) (mvT hZ (hw _ (List.mem_of_getElem? (i := 3) rfl))) (mvT hZ (hw _ (List.mem_of_getElem? (i := 4) rfl))) (by decide) (backOf (W := 0) (rm1 l Z a0 hw [] (2 : Int32) w_IDLE w_READY w_RUNNING w_WAITING w_SUCCEEDED w_FAILED w_CANCELED w_RUNNING h0 n0 Z0 S_IDLE S_READY S_RUNNING S_WAITING S_SUCCEEDED S_FAILED S_CANCELED rfl) hZ (hw _ (List.mem_of_getElem? (i := 4) rfl)) (hw _ (List.mem_of_getElem? (i := 3) rfl)) (by decide) (by decide)) (g := (mkF m 9 #[.val (.int p1), .val (.int (2 : Int32)), .unset, .unset] [(.int (2 : Int32))])) rfl (by rw [hml]; rfl) (argsL := [(.int (2 : Int32))]) (rest := []) (lenOf pd_rm0_0 rfl) rfl (by show 2 * 0 + _ ≤ _; exact Nat.le_of_eq rfl) (hb hby at_9) (fun _ _ => ⟨rfl, e0, (by decide : 0 + 0 ≤ _), (by decide : 0 + 0 ≤ _)⟩)
    dsimp only [Pt.U, Pt.locs, Pt.cells, Pt.slots] at X15 l15 y15 z15 st15 hQ15
    subst l15 y15 z15
    obtain ⟨rfl, N15q, e15⟩ := hQ15
    have N15 := Fr.app N0 N15q
    obtain ⟨T16, X16, e16, st16⟩ := getS2 X15 hx hZ hown (host := "") (Or.inl (hw _ (List.mem_of_getElem? (i := 8) rfl))) Via.refl e15 S_SUCCEEDED (g := (mkF m 14 #[.val (.int p1), .val (.int (2 : Int32)), .val (.ref w_RUNNING), .unset] [(.ref w_RUNNING)])) rfl (hb hby at_14)
    obtain ⟨T17, X17, e17, st17⟩ := getS2 X16 hx hZ hown (host := "") (Or.inl (hw _ (List.mem_of_getElem? (i := 10) rfl))) Via.refl e16 S_FAILED (g := (mkF m 21 #[.val (.int p1), .val (.int (2 : Int32)), .val (.ref w_RUNNING), .unset] [(.ref w_RUNNING)])) rfl (hb hby at_21)
    obtain ⟨T18, X18, e18, st18⟩ := getS2 X17 hx hZ hown (host := "") (Or.inl (hw _ (List.mem_of_getElem? (i := 12) rfl))) Via.refl e17 S_CANCELED (g := (mkF m 28 #[.val (.int p1), .val (.int (2 : Int32)), .val (.ref w_RUNNING), .unset] [(.ref w_RUNNING)])) rfl (hb hby at_28)
    obtain ⟨cq19, kq19, q19a, q19b, q19c⟩ := isOf hZ e18 E_RUNNING
    obtain ⟨_, _, ⟨T19, L19, k19, n19⟩, -, X19, ⟨Lc19, hQ19, l19, y19, z19⟩, st19⟩ := X18.virtualBack hx (y := (⟨"com/example/nevermind/nevermind/reducer/NodeStatus", "isFinal", "()Z"⟩ : MethodName)) (z := (⟨"com/example/nevermind/nevermind/reducer/NodeStatus", "isFinal", "()Z"⟩ : MethodName)) hown (mvT hZ (hw _ (List.mem_of_getElem? (i := 14) rfl))) (mvT hZ (hw _ (List.mem_of_getElem? (i := 15) rfl))) (notFace_of_selects (args := #[]) (mvT hZ (hw _ (List.mem_of_getElem? (i := 17) rfl)))) (mvT hZ (hw _ (List.mem_of_getElem? (i := 17) rfl))) (mvT hZ (hw _ (List.mem_of_getElem? (i := 16) rfl))) (by decide) (backOf (W := 0) (rmF2 l Z a0 hw [] w_RUNNING w_SUCCEEDED mr h0 n0 Z0 E_RUNNING E_SUCCEEDED O_RUNNING O_SUCCEEDED M S_SUCCEEDED) hZ (hw _ (List.mem_of_getElem? (i := 18) rfl)) (hw _ (List.mem_of_getElem? (i := 6) rfl)) (by decide) (by decide)) q19a q19c (g := (mkF m 41 #[.val (.int p1), .val (.int (2 : Int32)), .val (.ref w_RUNNING), .val (.int (0 : Int32))] [(.ref w_RUNNING)])) rfl (by rw [hml]; rfl) (Steps.refl _) (argsL := []) (rest := []) (lenOf pd_rm0_1 rfl) rfl (by show 2 * 0 + _ ≤ _; exact Nat.le_of_eq rfl) (hb hby at_41) (fun _ _ => ⟨rfl, e18, (by decide : 0 + 0 ≤ _), (by decide : 0 + 0 ≤ _)⟩)
    dsimp only [Pt.U, Pt.locs, Pt.cells, Pt.slots] at X19 l19 y19 z19 st19 hQ19
    subst l19 y19 z19
    obtain ⟨rfl, N19q, e19⟩ := hQ19
    have N19 := Fr.app N15 N19q
    obtain ⟨fs, hr, hrun, hended, hW, hsame⟩ := X19.leave (v := some (.int (1 : Int32))) (fun h => by rw [Bd.returns] at h; cases h)
    refine ⟨_, _, pre14 _ ?_, hrun, hended, _, _, rfl, ?_, ⟨_, rfl⟩, hW, hsame.mono (by decide) (by decide)⟩
    · show Steps p.tables e below (s₁.setTop (mkF m 7 #[.val (.int p1), .unset, .unset, .unset] [(.int (2 : Int32))])) _
      refine XS.istoreN X0.here hx rfl (hb hby at_7) rfl (l' := #[.val (.int p1), .val (.int (2 : Int32)), .unset, .unset]) rfl ?_
      show Steps p.tables e below (s₁.setTop (mkF m 8 #[.val (.int p1), .val (.int (2 : Int32)), .unset, .unset] [])) _
      refine XS.iloadN X0.here hx rfl (hb hby at_8) rfl ?_
      show Steps p.tables e below (s₁.setTop (mkF m 9 #[.val (.int p1), .val (.int (2 : Int32)), .unset, .unset] [(.int (2 : Int32))])) _
      refine st15 _ ?_
      show Steps p.tables e below (T15.setTop (mkF m 12 #[.val (.int p1), .val (.int (2 : Int32)), .unset, .unset] [(.ref w_RUNNING)])) _
      refine XS.astoreN X15.here hx rfl (hb hby at_12) rfl rfl (l' := #[.val (.int p1), .val (.int (2 : Int32)), .val (.ref w_RUNNING), .unset]) rfl ?_
      show Steps p.tables e below (T15.setTop (mkF m 13 #[.val (.int p1), .val (.int (2 : Int32)), .val (.ref w_RUNNING), .unset] [])) _
      refine XS.aloadN X15.here hx rfl (hb hby at_13) rfl rfl ?_
      show Steps p.tables e below (T15.setTop (mkF m 14 #[.val (.int p1), .val (.int (2 : Int32)), .val (.ref w_RUNNING), .unset] [(.ref w_RUNNING)])) _
      refine st16 _ ?_
      show Steps p.tables e below (T16.setTop (mkF m 17 #[.val (.int p1), .val (.int (2 : Int32)), .val (.ref w_RUNNING), .unset] [(.ref w_SUCCEEDED), (.ref w_RUNNING)])) _
      refine Jvm.RoadKit.acmp (g := (mkF m 17 #[.val (.int p1), .val (.int (2 : Int32)), .val (.ref w_RUNNING), .unset] [(.ref w_SUCCEEDED), (.ref w_RUNNING)])) X16 hx rfl rfl rfl (pc0 := 17) (pc' := 20) (same := false) rfl (hb hby at_17) rfl (decide_eq_false fun q => (own_ne O_RUNNING O_SUCCEEDED (by decide)) (Value.ref.inj q)) (by decide) (by decide) ?_
      show Steps p.tables e below (T16.setTop (mkF m 20 #[.val (.int p1), .val (.int (2 : Int32)), .val (.ref w_RUNNING), .unset] [])) _
      refine XS.aloadN X16.here hx rfl (hb hby at_20) rfl rfl ?_
      show Steps p.tables e below (T16.setTop (mkF m 21 #[.val (.int p1), .val (.int (2 : Int32)), .val (.ref w_RUNNING), .unset] [(.ref w_RUNNING)])) _
      refine st17 _ ?_
      show Steps p.tables e below (T17.setTop (mkF m 24 #[.val (.int p1), .val (.int (2 : Int32)), .val (.ref w_RUNNING), .unset] [(.ref w_FAILED), (.ref w_RUNNING)])) _
      refine Jvm.RoadKit.acmp (g := (mkF m 24 #[.val (.int p1), .val (.int (2 : Int32)), .val (.ref w_RUNNING), .unset] [(.ref w_FAILED), (.ref w_RUNNING)])) X17 hx rfl rfl rfl (pc0 := 24) (pc' := 27) (same := false) rfl (hb hby at_24) rfl (decide_eq_false fun q => (own_ne O_RUNNING O_FAILED (by decide)) (Value.ref.inj q)) (by decide) (by decide) ?_
      show Steps p.tables e below (T17.setTop (mkF m 27 #[.val (.int p1), .val (.int (2 : Int32)), .val (.ref w_RUNNING), .unset] [])) _
      refine XS.aloadN X17.here hx rfl (hb hby at_27) rfl rfl ?_
      show Steps p.tables e below (T17.setTop (mkF m 28 #[.val (.int p1), .val (.int (2 : Int32)), .val (.ref w_RUNNING), .unset] [(.ref w_RUNNING)])) _
      refine st18 _ ?_
      show Steps p.tables e below (T18.setTop (mkF m 31 #[.val (.int p1), .val (.int (2 : Int32)), .val (.ref w_RUNNING), .unset] [(.ref w_CANCELED), (.ref w_RUNNING)])) _
      refine Jvm.RoadKit.acmp (g := (mkF m 31 #[.val (.int p1), .val (.int (2 : Int32)), .val (.ref w_RUNNING), .unset] [(.ref w_CANCELED), (.ref w_RUNNING)])) X18 hx rfl rfl rfl (pc0 := 31) (pc' := 38) (same := false) rfl (hb hby at_31) rfl (decide_eq_false fun q => (own_ne O_RUNNING O_CANCELED (by decide)) (Value.ref.inj q)) (by decide) (by decide) ?_
      show Steps p.tables e below (T18.setTop (mkF m 38 #[.val (.int p1), .val (.int (2 : Int32)), .val (.ref w_RUNNING), .unset] [])) _
      refine XS.iconst X18.here hx rfl (hb hby at_38) ?_
      show Steps p.tables e below (T18.setTop (mkF m 39 #[.val (.int p1), .val (.int (2 : Int32)), .val (.ref w_RUNNING), .unset] [(.int (0 : Int32))])) _
      refine XS.istoreN X18.here hx rfl (hb hby at_39) rfl (l' := #[.val (.int p1), .val (.int (2 : Int32)), .val (.ref w_RUNNING), .val (.int (0 : Int32))]) rfl ?_
      show Steps p.tables e below (T18.setTop (mkF m 40 #[.val (.int p1), .val (.int (2 : Int32)), .val (.ref w_RUNNING), .val (.int (0 : Int32))] [])) _
      refine XS.aloadN X18.here hx rfl (hb hby at_40) rfl rfl ?_
      show Steps p.tables e below (T18.setTop (mkF m 41 #[.val (.int p1), .val (.int (2 : Int32)), .val (.ref w_RUNNING), .val (.int (0 : Int32))] [(.ref w_RUNNING)])) _
      refine st19.trans ?_
      show Steps p.tables e below (T19.setTop (mkF m 44 #[.val (.int p1), .val (.int (2 : Int32)), .val (.ref w_RUNNING), .val (.int (0 : Int32))] [(.int (0 : Int32))])) _
      refine XS.iloadN X19.here hx rfl (hb hby at_44) rfl ?_
      show Steps p.tables e below (T19.setTop (mkF m 45 #[.val (.int p1), .val (.int (2 : Int32)), .val (.ref w_RUNNING), .val (.int (0 : Int32))] [(.int (0 : Int32)), (.int (0 : Int32))])) _
      refine XS.icmpNo X19.here hx rfl (hb hby at_45) rfl (teq (rfl : (0 : Int32) = (0 : Int32))).2 ?_
      show Steps p.tables e below (T19.setTop (mkF m 48 #[.val (.int p1), .val (.int (2 : Int32)), .val (.ref w_RUNNING), .val (.int (0 : Int32))] [])) _
      refine XS.iconst X19.here hx rfl (hb hby at_48) ?_
      show Steps p.tables e below (T19.setTop (mkF m 49 #[.val (.int p1), .val (.int (2 : Int32)), .val (.ref w_RUNNING), .val (.int (0 : Int32))] [(.int (1 : Int32))])) _
      refine XS.goto X19.here hx rfl (pc0 := 49) (pc' := 53) rfl (hb hby at_49) (by decide) (by decide) ?_
      show Steps p.tables e below (T19.setTop (mkF m 53 #[.val (.int p1), .val (.int (2 : Int32)), .val (.ref w_RUNNING), .val (.int (0 : Int32))] [(.int (1 : Int32))])) _
      exact retN X19 hx (t := .boolean) Bd.returns (by simp) (hb hby at_53) hr
    · show Q_rm0 Z p1 w_IDLE w_READY w_RUNNING w_WAITING w_SUCCEEDED w_FAILED w_CANCELED mr h0 n0 _ T19.heap _
      rw [e19]
      exact ⟨rfl, N19⟩
  · have pre20 : ∀ t, Steps p.tables e below (s₁.setTop (mkF m 7 #[.val (.int p1), .unset, .unset, .unset] [(.int (3 : Int32))])) t → Steps p.tables e below (s₁.setTop (entryFrame m #[(.int p1)] maxLocals)) t := fun t k => pre1 t (by rw [hk]; exact k)
    obtain ⟨_, _, ⟨T21, L21, k21, n21⟩, -, X21, ⟨Lc21, hQ21, l21, y21, z21⟩, st21⟩ := Jvm.LawKit.callS X0 hx (y := (⟨"com/example/nevermind/nevermind/reducer/NodeStatusIsFinalPinLaw", "pick", "(I)Lcom/example/nevermind/nevermind/reducer/NodeStatus;"⟩ : MethodName)) hown (mvT hZ (hw _ (List.mem_of_getElem? (i := 1) rfl))) (mvT hZ (hw _ (List.mem_of_getElem? (i := 2) rfl))) (mvT hZ (hw _ (List.mem_of_getElem? (i := 3) rfl))) (mvT hZ (hw _ (List.mem_of_getElem? (i := 4) rfl))) (by decide) (backOf (W := 0) (rm1 l Z a0 hw [] (3 : Int32) w_IDLE w_READY w_RUNNING w_WAITING w_SUCCEEDED w_FAILED w_CANCELED w_WAITING h0 n0 Z0 S_IDLE S_READY S_RUNNING S_WAITING S_SUCCEEDED S_FAILED S_CANCELED rfl) hZ (hw _ (List.mem_of_getElem? (i := 4) rfl)) (hw _ (List.mem_of_getElem? (i := 3) rfl)) (by decide) (by decide)) (g := (mkF m 9 #[.val (.int p1), .val (.int (3 : Int32)), .unset, .unset] [(.int (3 : Int32))])) rfl (by rw [hml]; rfl) (argsL := [(.int (3 : Int32))]) (rest := []) (lenOf pd_rm0_0 rfl) rfl (by show 2 * 0 + _ ≤ _; exact Nat.le_of_eq rfl) (hb hby at_9) (fun _ _ => ⟨rfl, e0, (by decide : 0 + 0 ≤ _), (by decide : 0 + 0 ≤ _)⟩)
    dsimp only [Pt.U, Pt.locs, Pt.cells, Pt.slots] at X21 l21 y21 z21 st21 hQ21
    subst l21 y21 z21
    obtain ⟨rfl, N21q, e21⟩ := hQ21
    have N21 := Fr.app N0 N21q
    obtain ⟨T22, X22, e22, st22⟩ := getS2 X21 hx hZ hown (host := "") (Or.inl (hw _ (List.mem_of_getElem? (i := 8) rfl))) Via.refl e21 S_SUCCEEDED (g := (mkF m 14 #[.val (.int p1), .val (.int (3 : Int32)), .val (.ref w_WAITING), .unset] [(.ref w_WAITING)])) rfl (hb hby at_14)
    obtain ⟨T23, X23, e23, st23⟩ := getS2 X22 hx hZ hown (host := "") (Or.inl (hw _ (List.mem_of_getElem? (i := 10) rfl))) Via.refl e22 S_FAILED (g := (mkF m 21 #[.val (.int p1), .val (.int (3 : Int32)), .val (.ref w_WAITING), .unset] [(.ref w_WAITING)])) rfl (hb hby at_21)
    obtain ⟨T24, X24, e24, st24⟩ := getS2 X23 hx hZ hown (host := "") (Or.inl (hw _ (List.mem_of_getElem? (i := 12) rfl))) Via.refl e23 S_CANCELED (g := (mkF m 28 #[.val (.int p1), .val (.int (3 : Int32)), .val (.ref w_WAITING), .unset] [(.ref w_WAITING)])) rfl (hb hby at_28)
    obtain ⟨cq25, kq25, q25a, q25b, q25c⟩ := isOf hZ e24 E_WAITING
    obtain ⟨_, _, ⟨T25, L25, k25, n25⟩, -, X25, ⟨Lc25, hQ25, l25, y25, z25⟩, st25⟩ := X24.virtualBack hx (y := (⟨"com/example/nevermind/nevermind/reducer/NodeStatus", "isFinal", "()Z"⟩ : MethodName)) (z := (⟨"com/example/nevermind/nevermind/reducer/NodeStatus", "isFinal", "()Z"⟩ : MethodName)) hown (mvT hZ (hw _ (List.mem_of_getElem? (i := 14) rfl))) (mvT hZ (hw _ (List.mem_of_getElem? (i := 15) rfl))) (notFace_of_selects (args := #[]) (mvT hZ (hw _ (List.mem_of_getElem? (i := 17) rfl)))) (mvT hZ (hw _ (List.mem_of_getElem? (i := 17) rfl))) (mvT hZ (hw _ (List.mem_of_getElem? (i := 16) rfl))) (by decide) (backOf (W := 0) (rmF3 l Z a0 hw [] w_WAITING w_SUCCEEDED mr h0 n0 Z0 E_WAITING E_SUCCEEDED O_WAITING O_SUCCEEDED M S_SUCCEEDED) hZ (hw _ (List.mem_of_getElem? (i := 18) rfl)) (hw _ (List.mem_of_getElem? (i := 6) rfl)) (by decide) (by decide)) q25a q25c (g := (mkF m 41 #[.val (.int p1), .val (.int (3 : Int32)), .val (.ref w_WAITING), .val (.int (0 : Int32))] [(.ref w_WAITING)])) rfl (by rw [hml]; rfl) (Steps.refl _) (argsL := []) (rest := []) (lenOf pd_rm0_1 rfl) rfl (by show 2 * 0 + _ ≤ _; exact Nat.le_of_eq rfl) (hb hby at_41) (fun _ _ => ⟨rfl, e24, (by decide : 0 + 0 ≤ _), (by decide : 0 + 0 ≤ _)⟩)
    dsimp only [Pt.U, Pt.locs, Pt.cells, Pt.slots] at X25 l25 y25 z25 st25 hQ25
    subst l25 y25 z25
    obtain ⟨rfl, N25q, e25⟩ := hQ25
    have N25 := Fr.app N21 N25q
    obtain ⟨fs, hr, hrun, hended, hW, hsame⟩ := X25.leave (v := some (.int (1 : Int32))) (fun h => by rw [Bd.returns] at h; cases h)
    refine ⟨_, _, pre20 _ ?_, hrun, hended, _, _, rfl, ?_, ⟨_, rfl⟩, hW, hsame.mono (by decide) (by decide)⟩
    · show Steps p.tables e below (s₁.setTop (mkF m 7 #[.val (.int p1), .unset, .unset, .unset] [(.int (3 : Int32))])) _
      refine XS.istoreN X0.here hx rfl (hb hby at_7) rfl (l' := #[.val (.int p1), .val (.int (3 : Int32)), .unset, .unset]) rfl ?_
      show Steps p.tables e below (s₁.setTop (mkF m 8 #[.val (.int p1), .val (.int (3 : Int32)), .unset, .unset] [])) _
      refine XS.iloadN X0.here hx rfl (hb hby at_8) rfl ?_
      show Steps p.tables e below (s₁.setTop (mkF m 9 #[.val (.int p1), .val (.int (3 : Int32)), .unset, .unset] [(.int (3 : Int32))])) _
      refine st21 _ ?_
      show Steps p.tables e below (T21.setTop (mkF m 12 #[.val (.int p1), .val (.int (3 : Int32)), .unset, .unset] [(.ref w_WAITING)])) _
      refine XS.astoreN X21.here hx rfl (hb hby at_12) rfl rfl (l' := #[.val (.int p1), .val (.int (3 : Int32)), .val (.ref w_WAITING), .unset]) rfl ?_
      show Steps p.tables e below (T21.setTop (mkF m 13 #[.val (.int p1), .val (.int (3 : Int32)), .val (.ref w_WAITING), .unset] [])) _
      refine XS.aloadN X21.here hx rfl (hb hby at_13) rfl rfl ?_
      show Steps p.tables e below (T21.setTop (mkF m 14 #[.val (.int p1), .val (.int (3 : Int32)), .val (.ref w_WAITING), .unset] [(.ref w_WAITING)])) _
      refine st22 _ ?_
      show Steps p.tables e below (T22.setTop (mkF m 17 #[.val (.int p1), .val (.int (3 : Int32)), .val (.ref w_WAITING), .unset] [(.ref w_SUCCEEDED), (.ref w_WAITING)])) _
      refine Jvm.RoadKit.acmp (g := (mkF m 17 #[.val (.int p1), .val (.int (3 : Int32)), .val (.ref w_WAITING), .unset] [(.ref w_SUCCEEDED), (.ref w_WAITING)])) X22 hx rfl rfl rfl (pc0 := 17) (pc' := 20) (same := false) rfl (hb hby at_17) rfl (decide_eq_false fun q => (own_ne O_WAITING O_SUCCEEDED (by decide)) (Value.ref.inj q)) (by decide) (by decide) ?_
      show Steps p.tables e below (T22.setTop (mkF m 20 #[.val (.int p1), .val (.int (3 : Int32)), .val (.ref w_WAITING), .unset] [])) _
      refine XS.aloadN X22.here hx rfl (hb hby at_20) rfl rfl ?_
      show Steps p.tables e below (T22.setTop (mkF m 21 #[.val (.int p1), .val (.int (3 : Int32)), .val (.ref w_WAITING), .unset] [(.ref w_WAITING)])) _
      refine st23 _ ?_
      show Steps p.tables e below (T23.setTop (mkF m 24 #[.val (.int p1), .val (.int (3 : Int32)), .val (.ref w_WAITING), .unset] [(.ref w_FAILED), (.ref w_WAITING)])) _
      refine Jvm.RoadKit.acmp (g := (mkF m 24 #[.val (.int p1), .val (.int (3 : Int32)), .val (.ref w_WAITING), .unset] [(.ref w_FAILED), (.ref w_WAITING)])) X23 hx rfl rfl rfl (pc0 := 24) (pc' := 27) (same := false) rfl (hb hby at_24) rfl (decide_eq_false fun q => (own_ne O_WAITING O_FAILED (by decide)) (Value.ref.inj q)) (by decide) (by decide) ?_
      show Steps p.tables e below (T23.setTop (mkF m 27 #[.val (.int p1), .val (.int (3 : Int32)), .val (.ref w_WAITING), .unset] [])) _
      refine XS.aloadN X23.here hx rfl (hb hby at_27) rfl rfl ?_
      show Steps p.tables e below (T23.setTop (mkF m 28 #[.val (.int p1), .val (.int (3 : Int32)), .val (.ref w_WAITING), .unset] [(.ref w_WAITING)])) _
      refine st24 _ ?_
      show Steps p.tables e below (T24.setTop (mkF m 31 #[.val (.int p1), .val (.int (3 : Int32)), .val (.ref w_WAITING), .unset] [(.ref w_CANCELED), (.ref w_WAITING)])) _
      refine Jvm.RoadKit.acmp (g := (mkF m 31 #[.val (.int p1), .val (.int (3 : Int32)), .val (.ref w_WAITING), .unset] [(.ref w_CANCELED), (.ref w_WAITING)])) X24 hx rfl rfl rfl (pc0 := 31) (pc' := 38) (same := false) rfl (hb hby at_31) rfl (decide_eq_false fun q => (own_ne O_WAITING O_CANCELED (by decide)) (Value.ref.inj q)) (by decide) (by decide) ?_
      show Steps p.tables e below (T24.setTop (mkF m 38 #[.val (.int p1), .val (.int (3 : Int32)), .val (.ref w_WAITING), .unset] [])) _
      refine XS.iconst X24.here hx rfl (hb hby at_38) ?_
      show Steps p.tables e below (T24.setTop (mkF m 39 #[.val (.int p1), .val (.int (3 : Int32)), .val (.ref w_WAITING), .unset] [(.int (0 : Int32))])) _
      refine XS.istoreN X24.here hx rfl (hb hby at_39) rfl (l' := #[.val (.int p1), .val (.int (3 : Int32)), .val (.ref w_WAITING), .val (.int (0 : Int32))]) rfl ?_
      show Steps p.tables e below (T24.setTop (mkF m 40 #[.val (.int p1), .val (.int (3 : Int32)), .val (.ref w_WAITING), .val (.int (0 : Int32))] [])) _
      refine XS.aloadN X24.here hx rfl (hb hby at_40) rfl rfl ?_
      show Steps p.tables e below (T24.setTop (mkF m 41 #[.val (.int p1), .val (.int (3 : Int32)), .val (.ref w_WAITING), .val (.int (0 : Int32))] [(.ref w_WAITING)])) _
      refine st25.trans ?_
      show Steps p.tables e below (T25.setTop (mkF m 44 #[.val (.int p1), .val (.int (3 : Int32)), .val (.ref w_WAITING), .val (.int (0 : Int32))] [(.int (0 : Int32))])) _
      refine XS.iloadN X25.here hx rfl (hb hby at_44) rfl ?_
      show Steps p.tables e below (T25.setTop (mkF m 45 #[.val (.int p1), .val (.int (3 : Int32)), .val (.ref w_WAITING), .val (.int (0 : Int32))] [(.int (0 : Int32)), (.int (0 : Int32))])) _
      refine XS.icmpNo X25.here hx rfl (hb hby at_45) rfl (teq (rfl : (0 : Int32) = (0 : Int32))).2 ?_
      show Steps p.tables e below (T25.setTop (mkF m 48 #[.val (.int p1), .val (.int (3 : Int32)), .val (.ref w_WAITING), .val (.int (0 : Int32))] [])) _
      refine XS.iconst X25.here hx rfl (hb hby at_48) ?_
      show Steps p.tables e below (T25.setTop (mkF m 49 #[.val (.int p1), .val (.int (3 : Int32)), .val (.ref w_WAITING), .val (.int (0 : Int32))] [(.int (1 : Int32))])) _
      refine XS.goto X25.here hx rfl (pc0 := 49) (pc' := 53) rfl (hb hby at_49) (by decide) (by decide) ?_
      show Steps p.tables e below (T25.setTop (mkF m 53 #[.val (.int p1), .val (.int (3 : Int32)), .val (.ref w_WAITING), .val (.int (0 : Int32))] [(.int (1 : Int32))])) _
      exact retN X25 hx (t := .boolean) Bd.returns (by simp) (hb hby at_53) hr
    · show Q_rm0 Z p1 w_IDLE w_READY w_RUNNING w_WAITING w_SUCCEEDED w_FAILED w_CANCELED mr h0 n0 _ T25.heap _
      rw [e25]
      exact ⟨rfl, N25⟩
  · have pre26 : ∀ t, Steps p.tables e below (s₁.setTop (mkF m 7 #[.val (.int p1), .unset, .unset, .unset] [(.int (4 : Int32))])) t → Steps p.tables e below (s₁.setTop (entryFrame m #[(.int p1)] maxLocals)) t := fun t k => pre1 t (by rw [hk]; exact k)
    obtain ⟨_, _, ⟨T27, L27, k27, n27⟩, -, X27, ⟨Lc27, hQ27, l27, y27, z27⟩, st27⟩ := Jvm.LawKit.callS X0 hx (y := (⟨"com/example/nevermind/nevermind/reducer/NodeStatusIsFinalPinLaw", "pick", "(I)Lcom/example/nevermind/nevermind/reducer/NodeStatus;"⟩ : MethodName)) hown (mvT hZ (hw _ (List.mem_of_getElem? (i := 1) rfl))) (mvT hZ (hw _ (List.mem_of_getElem? (i := 2) rfl))) (mvT hZ (hw _ (List.mem_of_getElem? (i := 3) rfl))) (mvT hZ (hw _ (List.mem_of_getElem? (i := 4) rfl))) (by decide) (backOf (W := 0) (rm1 l Z a0 hw [] (4 : Int32) w_IDLE w_READY w_RUNNING w_WAITING w_SUCCEEDED w_FAILED w_CANCELED w_SUCCEEDED h0 n0 Z0 S_IDLE S_READY S_RUNNING S_WAITING S_SUCCEEDED S_FAILED S_CANCELED rfl) hZ (hw _ (List.mem_of_getElem? (i := 4) rfl)) (hw _ (List.mem_of_getElem? (i := 3) rfl)) (by decide) (by decide)) (g := (mkF m 9 #[.val (.int p1), .val (.int (4 : Int32)), .unset, .unset] [(.int (4 : Int32))])) rfl (by rw [hml]; rfl) (argsL := [(.int (4 : Int32))]) (rest := []) (lenOf pd_rm0_0 rfl) rfl (by show 2 * 0 + _ ≤ _; exact Nat.le_of_eq rfl) (hb hby at_9) (fun _ _ => ⟨rfl, e0, (by decide : 0 + 0 ≤ _), (by decide : 0 + 0 ≤ _)⟩)
    dsimp only [Pt.U, Pt.locs, Pt.cells, Pt.slots] at X27 l27 y27 z27 st27 hQ27
    subst l27 y27 z27
    obtain ⟨rfl, N27q, e27⟩ := hQ27
    have N27 := Fr.app N0 N27q
    obtain ⟨T28, X28, e28, st28⟩ := getS2 X27 hx hZ hown (host := "") (Or.inl (hw _ (List.mem_of_getElem? (i := 8) rfl))) Via.refl e27 S_SUCCEEDED (g := (mkF m 14 #[.val (.int p1), .val (.int (4 : Int32)), .val (.ref w_SUCCEEDED), .unset] [(.ref w_SUCCEEDED)])) rfl (hb hby at_14)
    obtain ⟨cq29, kq29, q29a, q29b, q29c⟩ := isOf hZ e28 E_SUCCEEDED
    obtain ⟨_, _, ⟨T29, L29, k29, n29⟩, -, X29, ⟨Lc29, hQ29, l29, y29, z29⟩, st29⟩ := X28.virtualBack hx (y := (⟨"com/example/nevermind/nevermind/reducer/NodeStatus", "isFinal", "()Z"⟩ : MethodName)) (z := (⟨"com/example/nevermind/nevermind/reducer/NodeStatus", "isFinal", "()Z"⟩ : MethodName)) hown (mvT hZ (hw _ (List.mem_of_getElem? (i := 14) rfl))) (mvT hZ (hw _ (List.mem_of_getElem? (i := 15) rfl))) (notFace_of_selects (args := #[]) (mvT hZ (hw _ (List.mem_of_getElem? (i := 17) rfl)))) (mvT hZ (hw _ (List.mem_of_getElem? (i := 17) rfl))) (mvT hZ (hw _ (List.mem_of_getElem? (i := 16) rfl))) (by decide) (backOf (W := 0) (rmF4 l Z a0 hw [] w_SUCCEEDED w_SUCCEEDED mr h0 n0 Z0 E_SUCCEEDED E_SUCCEEDED O_SUCCEEDED O_SUCCEEDED M S_SUCCEEDED) hZ (hw _ (List.mem_of_getElem? (i := 18) rfl)) (hw _ (List.mem_of_getElem? (i := 6) rfl)) (by decide) (by decide)) q29a q29c (g := (mkF m 41 #[.val (.int p1), .val (.int (4 : Int32)), .val (.ref w_SUCCEEDED), .val (.int (1 : Int32))] [(.ref w_SUCCEEDED)])) rfl (by rw [hml]; rfl) (Steps.refl _) (argsL := []) (rest := []) (lenOf pd_rm0_1 rfl) rfl (by show 2 * 0 + _ ≤ _; exact Nat.le_of_eq rfl) (hb hby at_41) (fun _ _ => ⟨rfl, e28, (by decide : 0 + 0 ≤ _), (by decide : 0 + 0 ≤ _)⟩)
    dsimp only [Pt.U, Pt.locs, Pt.cells, Pt.slots] at X29 l29 y29 z29 st29 hQ29
    subst l29 y29 z29
    obtain ⟨rfl, N29q, e29⟩ := hQ29
    have N29 := Fr.app N27 N29q
    obtain ⟨fs, hr, hrun, hended, hW, hsame⟩ := X29.leave (v := some (.int (1 : Int32))) (fun h => by rw [Bd.returns] at h; cases h)
    refine ⟨_, _, pre26 _ ?_, hrun, hended, _, _, rfl, ?_, ⟨_, rfl⟩, hW, hsame.mono (by decide) (by decide)⟩
    · show Steps p.tables e below (s₁.setTop (mkF m 7 #[.val (.int p1), .unset, .unset, .unset] [(.int (4 : Int32))])) _
      refine XS.istoreN X0.here hx rfl (hb hby at_7) rfl (l' := #[.val (.int p1), .val (.int (4 : Int32)), .unset, .unset]) rfl ?_
      show Steps p.tables e below (s₁.setTop (mkF m 8 #[.val (.int p1), .val (.int (4 : Int32)), .unset, .unset] [])) _
      refine XS.iloadN X0.here hx rfl (hb hby at_8) rfl ?_
      show Steps p.tables e below (s₁.setTop (mkF m 9 #[.val (.int p1), .val (.int (4 : Int32)), .unset, .unset] [(.int (4 : Int32))])) _
      refine st27 _ ?_
      show Steps p.tables e below (T27.setTop (mkF m 12 #[.val (.int p1), .val (.int (4 : Int32)), .unset, .unset] [(.ref w_SUCCEEDED)])) _
      refine XS.astoreN X27.here hx rfl (hb hby at_12) rfl rfl (l' := #[.val (.int p1), .val (.int (4 : Int32)), .val (.ref w_SUCCEEDED), .unset]) rfl ?_
      show Steps p.tables e below (T27.setTop (mkF m 13 #[.val (.int p1), .val (.int (4 : Int32)), .val (.ref w_SUCCEEDED), .unset] [])) _
      refine XS.aloadN X27.here hx rfl (hb hby at_13) rfl rfl ?_
      show Steps p.tables e below (T27.setTop (mkF m 14 #[.val (.int p1), .val (.int (4 : Int32)), .val (.ref w_SUCCEEDED), .unset] [(.ref w_SUCCEEDED)])) _
      refine st28 _ ?_
      show Steps p.tables e below (T28.setTop (mkF m 17 #[.val (.int p1), .val (.int (4 : Int32)), .val (.ref w_SUCCEEDED), .unset] [(.ref w_SUCCEEDED), (.ref w_SUCCEEDED)])) _
      refine Jvm.RoadKit.acmp (g := (mkF m 17 #[.val (.int p1), .val (.int (4 : Int32)), .val (.ref w_SUCCEEDED), .unset] [(.ref w_SUCCEEDED), (.ref w_SUCCEEDED)])) X28 hx rfl rfl rfl (pc0 := 17) (pc' := 34) (same := true) rfl (hb hby at_17) rfl (decide_eq_true rfl) (by decide) (by decide) ?_
      show Steps p.tables e below (T28.setTop (mkF m 34 #[.val (.int p1), .val (.int (4 : Int32)), .val (.ref w_SUCCEEDED), .unset] [])) _
      refine XS.iconst X28.here hx rfl (hb hby at_34) ?_
      show Steps p.tables e below (T28.setTop (mkF m 35 #[.val (.int p1), .val (.int (4 : Int32)), .val (.ref w_SUCCEEDED), .unset] [(.int (1 : Int32))])) _
      refine XS.goto X28.here hx rfl (pc0 := 35) (pc' := 39) rfl (hb hby at_35) (by decide) (by decide) ?_
      show Steps p.tables e below (T28.setTop (mkF m 39 #[.val (.int p1), .val (.int (4 : Int32)), .val (.ref w_SUCCEEDED), .unset] [(.int (1 : Int32))])) _
      refine XS.istoreN X28.here hx rfl (hb hby at_39) rfl (l' := #[.val (.int p1), .val (.int (4 : Int32)), .val (.ref w_SUCCEEDED), .val (.int (1 : Int32))]) rfl ?_
      show Steps p.tables e below (T28.setTop (mkF m 40 #[.val (.int p1), .val (.int (4 : Int32)), .val (.ref w_SUCCEEDED), .val (.int (1 : Int32))] [])) _
      refine XS.aloadN X28.here hx rfl (hb hby at_40) rfl rfl ?_
      show Steps p.tables e below (T28.setTop (mkF m 41 #[.val (.int p1), .val (.int (4 : Int32)), .val (.ref w_SUCCEEDED), .val (.int (1 : Int32))] [(.ref w_SUCCEEDED)])) _
      refine st29.trans ?_
      show Steps p.tables e below (T29.setTop (mkF m 44 #[.val (.int p1), .val (.int (4 : Int32)), .val (.ref w_SUCCEEDED), .val (.int (1 : Int32))] [(.int (1 : Int32))])) _
      refine XS.iloadN X29.here hx rfl (hb hby at_44) rfl ?_
      show Steps p.tables e below (T29.setTop (mkF m 45 #[.val (.int p1), .val (.int (4 : Int32)), .val (.ref w_SUCCEEDED), .val (.int (1 : Int32))] [(.int (1 : Int32)), (.int (1 : Int32))])) _
      refine XS.icmpNo X29.here hx rfl (hb hby at_45) rfl (teq (rfl : (1 : Int32) = (1 : Int32))).2 ?_
      show Steps p.tables e below (T29.setTop (mkF m 48 #[.val (.int p1), .val (.int (4 : Int32)), .val (.ref w_SUCCEEDED), .val (.int (1 : Int32))] [])) _
      refine XS.iconst X29.here hx rfl (hb hby at_48) ?_
      show Steps p.tables e below (T29.setTop (mkF m 49 #[.val (.int p1), .val (.int (4 : Int32)), .val (.ref w_SUCCEEDED), .val (.int (1 : Int32))] [(.int (1 : Int32))])) _
      refine XS.goto X29.here hx rfl (pc0 := 49) (pc' := 53) rfl (hb hby at_49) (by decide) (by decide) ?_
      show Steps p.tables e below (T29.setTop (mkF m 53 #[.val (.int p1), .val (.int (4 : Int32)), .val (.ref w_SUCCEEDED), .val (.int (1 : Int32))] [(.int (1 : Int32))])) _
      exact retN X29 hx (t := .boolean) Bd.returns (by simp) (hb hby at_53) hr
    · show Q_rm0 Z p1 w_IDLE w_READY w_RUNNING w_WAITING w_SUCCEEDED w_FAILED w_CANCELED mr h0 n0 _ T29.heap _
      rw [e29]
      exact ⟨rfl, N29⟩
  · have pre30 : ∀ t, Steps p.tables e below (s₁.setTop (mkF m 7 #[.val (.int p1), .unset, .unset, .unset] [(.int (5 : Int32))])) t → Steps p.tables e below (s₁.setTop (entryFrame m #[(.int p1)] maxLocals)) t := fun t k => pre1 t (by rw [hk]; exact k)
    obtain ⟨_, _, ⟨T31, L31, k31, n31⟩, -, X31, ⟨Lc31, hQ31, l31, y31, z31⟩, st31⟩ := Jvm.LawKit.callS X0 hx (y := (⟨"com/example/nevermind/nevermind/reducer/NodeStatusIsFinalPinLaw", "pick", "(I)Lcom/example/nevermind/nevermind/reducer/NodeStatus;"⟩ : MethodName)) hown (mvT hZ (hw _ (List.mem_of_getElem? (i := 1) rfl))) (mvT hZ (hw _ (List.mem_of_getElem? (i := 2) rfl))) (mvT hZ (hw _ (List.mem_of_getElem? (i := 3) rfl))) (mvT hZ (hw _ (List.mem_of_getElem? (i := 4) rfl))) (by decide) (backOf (W := 0) (rm1 l Z a0 hw [] (5 : Int32) w_IDLE w_READY w_RUNNING w_WAITING w_SUCCEEDED w_FAILED w_CANCELED w_FAILED h0 n0 Z0 S_IDLE S_READY S_RUNNING S_WAITING S_SUCCEEDED S_FAILED S_CANCELED rfl) hZ (hw _ (List.mem_of_getElem? (i := 4) rfl)) (hw _ (List.mem_of_getElem? (i := 3) rfl)) (by decide) (by decide)) (g := (mkF m 9 #[.val (.int p1), .val (.int (5 : Int32)), .unset, .unset] [(.int (5 : Int32))])) rfl (by rw [hml]; rfl) (argsL := [(.int (5 : Int32))]) (rest := []) (lenOf pd_rm0_0 rfl) rfl (by show 2 * 0 + _ ≤ _; exact Nat.le_of_eq rfl) (hb hby at_9) (fun _ _ => ⟨rfl, e0, (by decide : 0 + 0 ≤ _), (by decide : 0 + 0 ≤ _)⟩)
    dsimp only [Pt.U, Pt.locs, Pt.cells, Pt.slots] at X31 l31 y31 z31 st31 hQ31
    subst l31 y31 z31
    obtain ⟨rfl, N31q, e31⟩ := hQ31
    have N31 := Fr.app N0 N31q
    obtain ⟨T32, X32, e32, st32⟩ := getS2 X31 hx hZ hown (host := "") (Or.inl (hw _ (List.mem_of_getElem? (i := 8) rfl))) Via.refl e31 S_SUCCEEDED (g := (mkF m 14 #[.val (.int p1), .val (.int (5 : Int32)), .val (.ref w_FAILED), .unset] [(.ref w_FAILED)])) rfl (hb hby at_14)
    obtain ⟨T33, X33, e33, st33⟩ := getS2 X32 hx hZ hown (host := "") (Or.inl (hw _ (List.mem_of_getElem? (i := 10) rfl))) Via.refl e32 S_FAILED (g := (mkF m 21 #[.val (.int p1), .val (.int (5 : Int32)), .val (.ref w_FAILED), .unset] [(.ref w_FAILED)])) rfl (hb hby at_21)
    obtain ⟨cq34, kq34, q34a, q34b, q34c⟩ := isOf hZ e33 E_FAILED
    obtain ⟨_, _, ⟨T34, L34, k34, n34⟩, -, X34, ⟨Lc34, hQ34, l34, y34, z34⟩, st34⟩ := X33.virtualBack hx (y := (⟨"com/example/nevermind/nevermind/reducer/NodeStatus", "isFinal", "()Z"⟩ : MethodName)) (z := (⟨"com/example/nevermind/nevermind/reducer/NodeStatus", "isFinal", "()Z"⟩ : MethodName)) hown (mvT hZ (hw _ (List.mem_of_getElem? (i := 14) rfl))) (mvT hZ (hw _ (List.mem_of_getElem? (i := 15) rfl))) (notFace_of_selects (args := #[]) (mvT hZ (hw _ (List.mem_of_getElem? (i := 17) rfl)))) (mvT hZ (hw _ (List.mem_of_getElem? (i := 17) rfl))) (mvT hZ (hw _ (List.mem_of_getElem? (i := 16) rfl))) (by decide) (backOf (W := 0) (rmF5 l Z a0 hw [] w_FAILED w_SUCCEEDED mr h0 n0 Z0 E_FAILED E_SUCCEEDED O_FAILED O_SUCCEEDED M S_SUCCEEDED) hZ (hw _ (List.mem_of_getElem? (i := 18) rfl)) (hw _ (List.mem_of_getElem? (i := 6) rfl)) (by decide) (by decide)) q34a q34c (g := (mkF m 41 #[.val (.int p1), .val (.int (5 : Int32)), .val (.ref w_FAILED), .val (.int (1 : Int32))] [(.ref w_FAILED)])) rfl (by rw [hml]; rfl) (Steps.refl _) (argsL := []) (rest := []) (lenOf pd_rm0_1 rfl) rfl (by show 2 * 0 + _ ≤ _; exact Nat.le_of_eq rfl) (hb hby at_41) (fun _ _ => ⟨rfl, e33, (by decide : 0 + 0 ≤ _), (by decide : 0 + 0 ≤ _)⟩)
    dsimp only [Pt.U, Pt.locs, Pt.cells, Pt.slots] at X34 l34 y34 z34 st34 hQ34
    subst l34 y34 z34
    obtain ⟨rfl, N34q, e34⟩ := hQ34
    have N34 := Fr.app N31 N34q
    obtain ⟨fs, hr, hrun, hended, hW, hsame⟩ := X34.leave (v := some (.int (1 : Int32))) (fun h => by rw [Bd.returns] at h; cases h)
    refine ⟨_, _, pre30 _ ?_, hrun, hended, _, _, rfl, ?_, ⟨_, rfl⟩, hW, hsame.mono (by decide) (by decide)⟩
    · show Steps p.tables e below (s₁.setTop (mkF m 7 #[.val (.int p1), .unset, .unset, .unset] [(.int (5 : Int32))])) _
      refine XS.istoreN X0.here hx rfl (hb hby at_7) rfl (l' := #[.val (.int p1), .val (.int (5 : Int32)), .unset, .unset]) rfl ?_
      show Steps p.tables e below (s₁.setTop (mkF m 8 #[.val (.int p1), .val (.int (5 : Int32)), .unset, .unset] [])) _
      refine XS.iloadN X0.here hx rfl (hb hby at_8) rfl ?_
      show Steps p.tables e below (s₁.setTop (mkF m 9 #[.val (.int p1), .val (.int (5 : Int32)), .unset, .unset] [(.int (5 : Int32))])) _
      refine st31 _ ?_
      show Steps p.tables e below (T31.setTop (mkF m 12 #[.val (.int p1), .val (.int (5 : Int32)), .unset, .unset] [(.ref w_FAILED)])) _
      refine XS.astoreN X31.here hx rfl (hb hby at_12) rfl rfl (l' := #[.val (.int p1), .val (.int (5 : Int32)), .val (.ref w_FAILED), .unset]) rfl ?_
      show Steps p.tables e below (T31.setTop (mkF m 13 #[.val (.int p1), .val (.int (5 : Int32)), .val (.ref w_FAILED), .unset] [])) _
      refine XS.aloadN X31.here hx rfl (hb hby at_13) rfl rfl ?_
      show Steps p.tables e below (T31.setTop (mkF m 14 #[.val (.int p1), .val (.int (5 : Int32)), .val (.ref w_FAILED), .unset] [(.ref w_FAILED)])) _
      refine st32 _ ?_
      show Steps p.tables e below (T32.setTop (mkF m 17 #[.val (.int p1), .val (.int (5 : Int32)), .val (.ref w_FAILED), .unset] [(.ref w_SUCCEEDED), (.ref w_FAILED)])) _
      refine Jvm.RoadKit.acmp (g := (mkF m 17 #[.val (.int p1), .val (.int (5 : Int32)), .val (.ref w_FAILED), .unset] [(.ref w_SUCCEEDED), (.ref w_FAILED)])) X32 hx rfl rfl rfl (pc0 := 17) (pc' := 20) (same := false) rfl (hb hby at_17) rfl (decide_eq_false fun q => (own_ne O_FAILED O_SUCCEEDED (by decide)) (Value.ref.inj q)) (by decide) (by decide) ?_
      show Steps p.tables e below (T32.setTop (mkF m 20 #[.val (.int p1), .val (.int (5 : Int32)), .val (.ref w_FAILED), .unset] [])) _
      refine XS.aloadN X32.here hx rfl (hb hby at_20) rfl rfl ?_
      show Steps p.tables e below (T32.setTop (mkF m 21 #[.val (.int p1), .val (.int (5 : Int32)), .val (.ref w_FAILED), .unset] [(.ref w_FAILED)])) _
      refine st33 _ ?_
      show Steps p.tables e below (T33.setTop (mkF m 24 #[.val (.int p1), .val (.int (5 : Int32)), .val (.ref w_FAILED), .unset] [(.ref w_FAILED), (.ref w_FAILED)])) _
      refine Jvm.RoadKit.acmp (g := (mkF m 24 #[.val (.int p1), .val (.int (5 : Int32)), .val (.ref w_FAILED), .unset] [(.ref w_FAILED), (.ref w_FAILED)])) X33 hx rfl rfl rfl (pc0 := 24) (pc' := 34) (same := true) rfl (hb hby at_24) rfl (decide_eq_true rfl) (by decide) (by decide) ?_
      show Steps p.tables e below (T33.setTop (mkF m 34 #[.val (.int p1), .val (.int (5 : Int32)), .val (.ref w_FAILED), .unset] [])) _
      refine XS.iconst X33.here hx rfl (hb hby at_34) ?_
      show Steps p.tables e below (T33.setTop (mkF m 35 #[.val (.int p1), .val (.int (5 : Int32)), .val (.ref w_FAILED), .unset] [(.int (1 : Int32))])) _
      refine XS.goto X33.here hx rfl (pc0 := 35) (pc' := 39) rfl (hb hby at_35) (by decide) (by decide) ?_
      show Steps p.tables e below (T33.setTop (mkF m 39 #[.val (.int p1), .val (.int (5 : Int32)), .val (.ref w_FAILED), .unset] [(.int (1 : Int32))])) _
      refine XS.istoreN X33.here hx rfl (hb hby at_39) rfl (l' := #[.val (.int p1), .val (.int (5 : Int32)), .val (.ref w_FAILED), .val (.int (1 : Int32))]) rfl ?_
      show Steps p.tables e below (T33.setTop (mkF m 40 #[.val (.int p1), .val (.int (5 : Int32)), .val (.ref w_FAILED), .val (.int (1 : Int32))] [])) _
      refine XS.aloadN X33.here hx rfl (hb hby at_40) rfl rfl ?_
      show Steps p.tables e below (T33.setTop (mkF m 41 #[.val (.int p1), .val (.int (5 : Int32)), .val (.ref w_FAILED), .val (.int (1 : Int32))] [(.ref w_FAILED)])) _
      refine st34.trans ?_
      show Steps p.tables e below (T34.setTop (mkF m 44 #[.val (.int p1), .val (.int (5 : Int32)), .val (.ref w_FAILED), .val (.int (1 : Int32))] [(.int (1 : Int32))])) _
      refine XS.iloadN X34.here hx rfl (hb hby at_44) rfl ?_
      show Steps p.tables e below (T34.setTop (mkF m 45 #[.val (.int p1), .val (.int (5 : Int32)), .val (.ref w_FAILED), .val (.int (1 : Int32))] [(.int (1 : Int32)), (.int (1 : Int32))])) _
      refine XS.icmpNo X34.here hx rfl (hb hby at_45) rfl (teq (rfl : (1 : Int32) = (1 : Int32))).2 ?_
      show Steps p.tables e below (T34.setTop (mkF m 48 #[.val (.int p1), .val (.int (5 : Int32)), .val (.ref w_FAILED), .val (.int (1 : Int32))] [])) _
      refine XS.iconst X34.here hx rfl (hb hby at_48) ?_
      show Steps p.tables e below (T34.setTop (mkF m 49 #[.val (.int p1), .val (.int (5 : Int32)), .val (.ref w_FAILED), .val (.int (1 : Int32))] [(.int (1 : Int32))])) _
      refine XS.goto X34.here hx rfl (pc0 := 49) (pc' := 53) rfl (hb hby at_49) (by decide) (by decide) ?_
      show Steps p.tables e below (T34.setTop (mkF m 53 #[.val (.int p1), .val (.int (5 : Int32)), .val (.ref w_FAILED), .val (.int (1 : Int32))] [(.int (1 : Int32))])) _
      exact retN X34 hx (t := .boolean) Bd.returns (by simp) (hb hby at_53) hr
    · show Q_rm0 Z p1 w_IDLE w_READY w_RUNNING w_WAITING w_SUCCEEDED w_FAILED w_CANCELED mr h0 n0 _ T34.heap _
      rw [e34]
      exact ⟨rfl, N34⟩
  · have pre35 : ∀ t, Steps p.tables e below (s₁.setTop (mkF m 7 #[.val (.int p1), .unset, .unset, .unset] [(.int (6 : Int32))])) t → Steps p.tables e below (s₁.setTop (entryFrame m #[(.int p1)] maxLocals)) t := fun t k => pre1 t (by rw [hk]; exact k)
    obtain ⟨_, _, ⟨T36, L36, k36, n36⟩, -, X36, ⟨Lc36, hQ36, l36, y36, z36⟩, st36⟩ := Jvm.LawKit.callS X0 hx (y := (⟨"com/example/nevermind/nevermind/reducer/NodeStatusIsFinalPinLaw", "pick", "(I)Lcom/example/nevermind/nevermind/reducer/NodeStatus;"⟩ : MethodName)) hown (mvT hZ (hw _ (List.mem_of_getElem? (i := 1) rfl))) (mvT hZ (hw _ (List.mem_of_getElem? (i := 2) rfl))) (mvT hZ (hw _ (List.mem_of_getElem? (i := 3) rfl))) (mvT hZ (hw _ (List.mem_of_getElem? (i := 4) rfl))) (by decide) (backOf (W := 0) (rm1 l Z a0 hw [] (6 : Int32) w_IDLE w_READY w_RUNNING w_WAITING w_SUCCEEDED w_FAILED w_CANCELED w_CANCELED h0 n0 Z0 S_IDLE S_READY S_RUNNING S_WAITING S_SUCCEEDED S_FAILED S_CANCELED rfl) hZ (hw _ (List.mem_of_getElem? (i := 4) rfl)) (hw _ (List.mem_of_getElem? (i := 3) rfl)) (by decide) (by decide)) (g := (mkF m 9 #[.val (.int p1), .val (.int (6 : Int32)), .unset, .unset] [(.int (6 : Int32))])) rfl (by rw [hml]; rfl) (argsL := [(.int (6 : Int32))]) (rest := []) (lenOf pd_rm0_0 rfl) rfl (by show 2 * 0 + _ ≤ _; exact Nat.le_of_eq rfl) (hb hby at_9) (fun _ _ => ⟨rfl, e0, (by decide : 0 + 0 ≤ _), (by decide : 0 + 0 ≤ _)⟩)
    dsimp only [Pt.U, Pt.locs, Pt.cells, Pt.slots] at X36 l36 y36 z36 st36 hQ36
    subst l36 y36 z36
    obtain ⟨rfl, N36q, e36⟩ := hQ36
    have N36 := Fr.app N0 N36q
    obtain ⟨T37, X37, e37, st37⟩ := getS2 X36 hx hZ hown (host := "") (Or.inl (hw _ (List.mem_of_getElem? (i := 8) rfl))) Via.refl e36 S_SUCCEEDED (g := (mkF m 14 #[.val (.int p1), .val (.int (6 : Int32)), .val (.ref w_CANCELED), .unset] [(.ref w_CANCELED)])) rfl (hb hby at_14)
    obtain ⟨T38, X38, e38, st38⟩ := getS2 X37 hx hZ hown (host := "") (Or.inl (hw _ (List.mem_of_getElem? (i := 10) rfl))) Via.refl e37 S_FAILED (g := (mkF m 21 #[.val (.int p1), .val (.int (6 : Int32)), .val (.ref w_CANCELED), .unset] [(.ref w_CANCELED)])) rfl (hb hby at_21)
    obtain ⟨T39, X39, e39, st39⟩ := getS2 X38 hx hZ hown (host := "") (Or.inl (hw _ (List.mem_of_getElem? (i := 12) rfl))) Via.refl e38 S_CANCELED (g := (mkF m 28 #[.val (.int p1), .val (.int (6 : Int32)), .val (.ref w_CANCELED), .unset] [(.ref w_CANCELED)])) rfl (hb hby at_28)
    obtain ⟨cq40, kq40, q40a, q40b, q40c⟩ := isOf hZ e39 E_CANCELED
    obtain ⟨_, _, ⟨T40, L40, k40, n40⟩, -, X40, ⟨Lc40, hQ40, l40, y40, z40⟩, st40⟩ := X39.virtualBack hx (y := (⟨"com/example/nevermind/nevermind/reducer/NodeStatus", "isFinal", "()Z"⟩ : MethodName)) (z := (⟨"com/example/nevermind/nevermind/reducer/NodeStatus", "isFinal", "()Z"⟩ : MethodName)) hown (mvT hZ (hw _ (List.mem_of_getElem? (i := 14) rfl))) (mvT hZ (hw _ (List.mem_of_getElem? (i := 15) rfl))) (notFace_of_selects (args := #[]) (mvT hZ (hw _ (List.mem_of_getElem? (i := 17) rfl)))) (mvT hZ (hw _ (List.mem_of_getElem? (i := 17) rfl))) (mvT hZ (hw _ (List.mem_of_getElem? (i := 16) rfl))) (by decide) (backOf (W := 0) (rmF6 l Z a0 hw [] w_CANCELED w_SUCCEEDED mr h0 n0 Z0 E_CANCELED E_SUCCEEDED O_CANCELED O_SUCCEEDED M S_SUCCEEDED) hZ (hw _ (List.mem_of_getElem? (i := 18) rfl)) (hw _ (List.mem_of_getElem? (i := 6) rfl)) (by decide) (by decide)) q40a q40c (g := (mkF m 41 #[.val (.int p1), .val (.int (6 : Int32)), .val (.ref w_CANCELED), .val (.int (1 : Int32))] [(.ref w_CANCELED)])) rfl (by rw [hml]; rfl) (Steps.refl _) (argsL := []) (rest := []) (lenOf pd_rm0_1 rfl) rfl (by show 2 * 0 + _ ≤ _; exact Nat.le_of_eq rfl) (hb hby at_41) (fun _ _ => ⟨rfl, e39, (by decide : 0 + 0 ≤ _), (by decide : 0 + 0 ≤ _)⟩)
    dsimp only [Pt.U, Pt.locs, Pt.cells, Pt.slots] at X40 l40 y40 z40 st40 hQ40
    subst l40 y40 z40
    obtain ⟨rfl, N40q, e40⟩ := hQ40
    have N40 := Fr.app N36 N40q
    obtain ⟨fs, hr, hrun, hended, hW, hsame⟩ := X40.leave (v := some (.int (1 : Int32))) (fun h => by rw [Bd.returns] at h; cases h)
    refine ⟨_, _, pre35 _ ?_, hrun, hended, _, _, rfl, ?_, ⟨_, rfl⟩, hW, hsame.mono (by decide) (by decide)⟩
    · show Steps p.tables e below (s₁.setTop (mkF m 7 #[.val (.int p1), .unset, .unset, .unset] [(.int (6 : Int32))])) _
      refine XS.istoreN X0.here hx rfl (hb hby at_7) rfl (l' := #[.val (.int p1), .val (.int (6 : Int32)), .unset, .unset]) rfl ?_
      show Steps p.tables e below (s₁.setTop (mkF m 8 #[.val (.int p1), .val (.int (6 : Int32)), .unset, .unset] [])) _
      refine XS.iloadN X0.here hx rfl (hb hby at_8) rfl ?_
      show Steps p.tables e below (s₁.setTop (mkF m 9 #[.val (.int p1), .val (.int (6 : Int32)), .unset, .unset] [(.int (6 : Int32))])) _
      refine st36 _ ?_
      show Steps p.tables e below (T36.setTop (mkF m 12 #[.val (.int p1), .val (.int (6 : Int32)), .unset, .unset] [(.ref w_CANCELED)])) _
      refine XS.astoreN X36.here hx rfl (hb hby at_12) rfl rfl (l' := #[.val (.int p1), .val (.int (6 : Int32)), .val (.ref w_CANCELED), .unset]) rfl ?_
      show Steps p.tables e below (T36.setTop (mkF m 13 #[.val (.int p1), .val (.int (6 : Int32)), .val (.ref w_CANCELED), .unset] [])) _
      refine XS.aloadN X36.here hx rfl (hb hby at_13) rfl rfl ?_
      show Steps p.tables e below (T36.setTop (mkF m 14 #[.val (.int p1), .val (.int (6 : Int32)), .val (.ref w_CANCELED), .unset] [(.ref w_CANCELED)])) _
      refine st37 _ ?_
      show Steps p.tables e below (T37.setTop (mkF m 17 #[.val (.int p1), .val (.int (6 : Int32)), .val (.ref w_CANCELED), .unset] [(.ref w_SUCCEEDED), (.ref w_CANCELED)])) _
      refine Jvm.RoadKit.acmp (g := (mkF m 17 #[.val (.int p1), .val (.int (6 : Int32)), .val (.ref w_CANCELED), .unset] [(.ref w_SUCCEEDED), (.ref w_CANCELED)])) X37 hx rfl rfl rfl (pc0 := 17) (pc' := 20) (same := false) rfl (hb hby at_17) rfl (decide_eq_false fun q => (own_ne O_CANCELED O_SUCCEEDED (by decide)) (Value.ref.inj q)) (by decide) (by decide) ?_
      show Steps p.tables e below (T37.setTop (mkF m 20 #[.val (.int p1), .val (.int (6 : Int32)), .val (.ref w_CANCELED), .unset] [])) _
      refine XS.aloadN X37.here hx rfl (hb hby at_20) rfl rfl ?_
      show Steps p.tables e below (T37.setTop (mkF m 21 #[.val (.int p1), .val (.int (6 : Int32)), .val (.ref w_CANCELED), .unset] [(.ref w_CANCELED)])) _
      refine st38 _ ?_
      show Steps p.tables e below (T38.setTop (mkF m 24 #[.val (.int p1), .val (.int (6 : Int32)), .val (.ref w_CANCELED), .unset] [(.ref w_FAILED), (.ref w_CANCELED)])) _
      refine Jvm.RoadKit.acmp (g := (mkF m 24 #[.val (.int p1), .val (.int (6 : Int32)), .val (.ref w_CANCELED), .unset] [(.ref w_FAILED), (.ref w_CANCELED)])) X38 hx rfl rfl rfl (pc0 := 24) (pc' := 27) (same := false) rfl (hb hby at_24) rfl (decide_eq_false fun q => (own_ne O_CANCELED O_FAILED (by decide)) (Value.ref.inj q)) (by decide) (by decide) ?_
      show Steps p.tables e below (T38.setTop (mkF m 27 #[.val (.int p1), .val (.int (6 : Int32)), .val (.ref w_CANCELED), .unset] [])) _
      refine XS.aloadN X38.here hx rfl (hb hby at_27) rfl rfl ?_
      show Steps p.tables e below (T38.setTop (mkF m 28 #[.val (.int p1), .val (.int (6 : Int32)), .val (.ref w_CANCELED), .unset] [(.ref w_CANCELED)])) _
      refine st39 _ ?_
      show Steps p.tables e below (T39.setTop (mkF m 31 #[.val (.int p1), .val (.int (6 : Int32)), .val (.ref w_CANCELED), .unset] [(.ref w_CANCELED), (.ref w_CANCELED)])) _
      refine Jvm.RoadKit.acmp (g := (mkF m 31 #[.val (.int p1), .val (.int (6 : Int32)), .val (.ref w_CANCELED), .unset] [(.ref w_CANCELED), (.ref w_CANCELED)])) X39 hx rfl rfl rfl (pc0 := 31) (pc' := 34) (same := true) rfl (hb hby at_31) rfl (decide_eq_true rfl) (by decide) (by decide) ?_
      show Steps p.tables e below (T39.setTop (mkF m 34 #[.val (.int p1), .val (.int (6 : Int32)), .val (.ref w_CANCELED), .unset] [])) _
      refine XS.iconst X39.here hx rfl (hb hby at_34) ?_
      show Steps p.tables e below (T39.setTop (mkF m 35 #[.val (.int p1), .val (.int (6 : Int32)), .val (.ref w_CANCELED), .unset] [(.int (1 : Int32))])) _
      refine XS.goto X39.here hx rfl (pc0 := 35) (pc' := 39) rfl (hb hby at_35) (by decide) (by decide) ?_
      show Steps p.tables e below (T39.setTop (mkF m 39 #[.val (.int p1), .val (.int (6 : Int32)), .val (.ref w_CANCELED), .unset] [(.int (1 : Int32))])) _
      refine XS.istoreN X39.here hx rfl (hb hby at_39) rfl (l' := #[.val (.int p1), .val (.int (6 : Int32)), .val (.ref w_CANCELED), .val (.int (1 : Int32))]) rfl ?_
      show Steps p.tables e below (T39.setTop (mkF m 40 #[.val (.int p1), .val (.int (6 : Int32)), .val (.ref w_CANCELED), .val (.int (1 : Int32))] [])) _
      refine XS.aloadN X39.here hx rfl (hb hby at_40) rfl rfl ?_
      show Steps p.tables e below (T39.setTop (mkF m 41 #[.val (.int p1), .val (.int (6 : Int32)), .val (.ref w_CANCELED), .val (.int (1 : Int32))] [(.ref w_CANCELED)])) _
      refine st40.trans ?_
      show Steps p.tables e below (T40.setTop (mkF m 44 #[.val (.int p1), .val (.int (6 : Int32)), .val (.ref w_CANCELED), .val (.int (1 : Int32))] [(.int (1 : Int32))])) _
      refine XS.iloadN X40.here hx rfl (hb hby at_44) rfl ?_
      show Steps p.tables e below (T40.setTop (mkF m 45 #[.val (.int p1), .val (.int (6 : Int32)), .val (.ref w_CANCELED), .val (.int (1 : Int32))] [(.int (1 : Int32)), (.int (1 : Int32))])) _
      refine XS.icmpNo X40.here hx rfl (hb hby at_45) rfl (teq (rfl : (1 : Int32) = (1 : Int32))).2 ?_
      show Steps p.tables e below (T40.setTop (mkF m 48 #[.val (.int p1), .val (.int (6 : Int32)), .val (.ref w_CANCELED), .val (.int (1 : Int32))] [])) _
      refine XS.iconst X40.here hx rfl (hb hby at_48) ?_
      show Steps p.tables e below (T40.setTop (mkF m 49 #[.val (.int p1), .val (.int (6 : Int32)), .val (.ref w_CANCELED), .val (.int (1 : Int32))] [(.int (1 : Int32))])) _
      refine XS.goto X40.here hx rfl (pc0 := 49) (pc' := 53) rfl (hb hby at_49) (by decide) (by decide) ?_
      show Steps p.tables e below (T40.setTop (mkF m 53 #[.val (.int p1), .val (.int (6 : Int32)), .val (.ref w_CANCELED), .val (.int (1 : Int32))] [(.int (1 : Int32))])) _
      exact retN X40 hx (t := .boolean) Bd.returns (by simp) (hb hby at_53) hr
    · show Q_rm0 Z p1 w_IDLE w_READY w_RUNNING w_WAITING w_SUCCEEDED w_FAILED w_CANCELED mr h0 n0 _ T40.heap _
      rw [e40]
      exact ⟨rfl, N40⟩
set_option maxRecDepth 65536 in
set_option maxHeartbeats 40000000 in
theorem comes_1 {Post : Tables → Env → Array Value → State → Outcome → State → Prop} (hpost : ∀ tb e args s v u, (limb_1_1.after args s (.returned v) u = true ∧ limb_1_2.after args s (.returned v) u = true ∧ True) → FrameEnd s (.returned v) u (Jvm.fieldLocs frame_1_writes args s ++ Jvm.arrayLocs frame_1_arrays args s ++ Jvm.staticLocs frame_1_statics s) 0 0 → Post tb e args s (.returned v) u) :
    ArmFor flags0 classFile x code maxLocals ret World_1 tables_1 room_1 Calls_1 rest_1 Pre_1 Post := by
  intro l hfl _ _ p e ha hc hk s m args below hf hA hF happ hP
  obtain ⟨hcalls, hrest, hpre⟩ := hP
  obtain ⟨-, -, -, hnamed, -, -, -, hat⟩ := (Spec.applies_iff hf).mp happ
  obtain ⟨hg, hn⟩ := and_e (Cond.before_iff.mp (show (Jvm.Cond.and given_1 narrow_1).before args s = true from hpre))
  obtain ⟨hcount, hgs⟩ := and_e hg
  obtain ⟨w0, rfl⟩ : ∃ w0 : Value, args = #[w0] := by
    have hs : args.size = 1 := by simpa [Cond.value, given_1] using hcount
    obtain ⟨L⟩ := args
    match L, hs with
    | [w0], _ => exact ⟨w0, rfl⟩
  have hw := fun d (hd : d ∈ tables_1) => atoms_spec (ws := Jvm.Cond.code x code maxLocals ret :: tables_1) hat d (List.mem_cons_of_mem _ hd)
  have hfit : Fit s := fun {y c} hc i hi => by
    obtain ⟨ha, rfl⟩ := Array.getElem?_eq_some_iff.mp hc
    have q := List.all_eq_true.mp ((Array.all_eq_true_iff_forall_mem.mp hF) _ (Array.getElem_mem ha)) i (List.mem_range.mpr hi)
    simpa [Array.getElem?_eq_getElem hi] using q
  obtain ⟨i0, ei0⟩ := is_v hgs
  obtain rfl : w0 = (.int i0) := Option.some.inj ei0
  obtain ⟨c0, hr_0⟩ := and_e hn
  obtain ⟨c1, hr_1⟩ := and_e hr_0
  obtain ⟨c2, hr_2⟩ := and_e hr_1
  obtain ⟨c3, hr_3⟩ := and_e hr_2
  obtain ⟨c4, hr_4⟩ := and_e hr_3
  obtain ⟨c5, hr_5⟩ := and_e hr_4
  obtain ⟨c6, hr_6⟩ := and_e hr_5
  obtain ⟨c7, hr_7⟩ := and_e hr_6
  obtain ⟨c8, hr_8⟩ := and_e hr_7
  obtain ⟨c9, hr_9⟩ := and_e hr_8
  obtain ⟨c10, hr_10⟩ := and_e hr_9
  obtain ⟨c11, hr_11⟩ := and_e hr_10
  obtain ⟨c12, hr_12⟩ := and_e hr_11
  have c13 := hr_12
  obtain ⟨w_IDLE, ev_IDLE⟩ := exa_v c0
  have S_IDLE : Sta s s.heap "com/example/nevermind/nevermind/reducer/NodeStatus" "IDLE" "Lcom/example/nevermind/nevermind/reducer/NodeStatus;" (.ref w_IDLE) := Sta.start ev_IDLE (Or.inr ⟨(hw _ (List.mem_of_getElem? (i := 6) rfl)), (hw _ (List.mem_of_getElem? (i := 7) rfl))⟩)
  have E_IDLE : Exa s s.heap w_IDLE "com/example/nevermind/nevermind/reducer/NodeStatus" := Exa.start ev_IDLE c0
  obtain ⟨w_SUCCEEDED, ev_SUCCEEDED⟩ := exa_v c1
  have S_SUCCEEDED : Sta s s.heap "com/example/nevermind/nevermind/reducer/NodeStatus" "SUCCEEDED" "Lcom/example/nevermind/nevermind/reducer/NodeStatus;" (.ref w_SUCCEEDED) := Sta.start ev_SUCCEEDED (Or.inr ⟨(hw _ (List.mem_of_getElem? (i := 6) rfl)), (hw _ (List.mem_of_getElem? (i := 9) rfl))⟩)
  have E_SUCCEEDED : Exa s s.heap w_SUCCEEDED "com/example/nevermind/nevermind/reducer/NodeStatus" := Exa.start ev_SUCCEEDED c1
  obtain ⟨w_FAILED, ev_FAILED⟩ := exa_v c4
  have S_FAILED : Sta s s.heap "com/example/nevermind/nevermind/reducer/NodeStatus" "FAILED" "Lcom/example/nevermind/nevermind/reducer/NodeStatus;" (.ref w_FAILED) := Sta.start ev_FAILED (Or.inr ⟨(hw _ (List.mem_of_getElem? (i := 6) rfl)), (hw _ (List.mem_of_getElem? (i := 11) rfl))⟩)
  have E_FAILED : Exa s s.heap w_FAILED "com/example/nevermind/nevermind/reducer/NodeStatus" := Exa.start ev_FAILED c4
  obtain ⟨w_CANCELED, ev_CANCELED⟩ := exa_v c6
  have S_CANCELED : Sta s s.heap "com/example/nevermind/nevermind/reducer/NodeStatus" "CANCELED" "Lcom/example/nevermind/nevermind/reducer/NodeStatus;" (.ref w_CANCELED) := Sta.start ev_CANCELED (Or.inr ⟨(hw _ (List.mem_of_getElem? (i := 6) rfl)), (hw _ (List.mem_of_getElem? (i := 13) rfl))⟩)
  have E_CANCELED : Exa s s.heap w_CANCELED "com/example/nevermind/nevermind/reducer/NodeStatus" := Exa.start ev_CANCELED c6
  obtain ⟨w_WAITING, ev_WAITING⟩ := exa_v c8
  have S_WAITING : Sta s s.heap "com/example/nevermind/nevermind/reducer/NodeStatus" "WAITING" "Lcom/example/nevermind/nevermind/reducer/NodeStatus;" (.ref w_WAITING) := Sta.start ev_WAITING (Or.inr ⟨(hw _ (List.mem_of_getElem? (i := 6) rfl)), (hw _ (List.mem_of_getElem? (i := 36) rfl))⟩)
  have E_WAITING : Exa s s.heap w_WAITING "com/example/nevermind/nevermind/reducer/NodeStatus" := Exa.start ev_WAITING c8
  obtain ⟨w_RUNNING, ev_RUNNING⟩ := exa_v c10
  have S_RUNNING : Sta s s.heap "com/example/nevermind/nevermind/reducer/NodeStatus" "RUNNING" "Lcom/example/nevermind/nevermind/reducer/NodeStatus;" (.ref w_RUNNING) := Sta.start ev_RUNNING (Or.inr ⟨(hw _ (List.mem_of_getElem? (i := 6) rfl)), (hw _ (List.mem_of_getElem? (i := 38) rfl))⟩)
  have E_RUNNING : Exa s s.heap w_RUNNING "com/example/nevermind/nevermind/reducer/NodeStatus" := Exa.start ev_RUNNING c10
  obtain ⟨w_READY, ev_READY⟩ := exa_v c12
  have S_READY : Sta s s.heap "com/example/nevermind/nevermind/reducer/NodeStatus" "READY" "Lcom/example/nevermind/nevermind/reducer/NodeStatus;" (.ref w_READY) := Sta.start ev_READY (Or.inr ⟨(hw _ (List.mem_of_getElem? (i := 6) rfl)), (hw _ (List.mem_of_getElem? (i := 40) rfl))⟩)
  have E_READY : Exa s s.heap w_READY "com/example/nevermind/nevermind/reducer/NodeStatus" := Exa.start ev_READY c12
  have O_IDLE : Fld s s.heap w_IDLE "java/lang/Enum" "ordinal" "I" (.int (0 : Int32)) := own_fld ev_IDLE c2
  have O_SUCCEEDED : Fld s s.heap w_SUCCEEDED "java/lang/Enum" "ordinal" "I" (.int (4 : Int32)) := own_fld ev_SUCCEEDED c3
  have O_FAILED : Fld s s.heap w_FAILED "java/lang/Enum" "ordinal" "I" (.int (5 : Int32)) := own_fld ev_FAILED c5
  have O_CANCELED : Fld s s.heap w_CANCELED "java/lang/Enum" "ordinal" "I" (.int (6 : Int32)) := own_fld ev_CANCELED c7
  have O_WAITING : Fld s s.heap w_WAITING "java/lang/Enum" "ordinal" "I" (.int (3 : Int32)) := own_fld ev_WAITING c9
  have O_RUNNING : Fld s s.heap w_RUNNING "java/lang/Enum" "ordinal" "I" (.int (2 : Int32)) := own_fld ev_RUNNING c11
  have O_READY : Fld s s.heap w_READY "java/lang/Enum" "ordinal" "I" (.int (1 : Int32)) := own_fld ev_READY c13
  obtain ⟨cM, kM, mr, m1, m2, m3, m4⟩ := (show Jvm.D.MirrorMade s "com/example/nevermind/nevermind/reducer/NodeStatus" from hcalls.1)
  have M : Mir s "com/example/nevermind/nevermind/reducer/NodeStatus" mr := ⟨cM, kM, m1, m2, m3, m4⟩
  obtain ⟨n, o, h1, h2, h3, _, L, rfl, ⟨rfl, N⟩, hq⟩ := rm0 l s _ hw tables_1 i0 w_IDLE w_READY w_RUNNING w_WAITING w_SUCCEEDED w_FAILED w_CANCELED mr s.heap s.heap.size (Nat.le_refl _) S_IDLE S_READY S_RUNNING S_WAITING S_SUCCEEDED S_FAILED S_CANCELED E_IDLE E_READY E_RUNNING E_WAITING E_SUCCEEDED E_FAILED E_CANCELED O_IDLE O_READY O_RUNNING O_WAITING O_SUCCEEDED O_FAILED O_CANCELED M p e ha hc hk s m _ below hf ((Spec.applies_iff_loose hf).mp happ).1 ⟨rfl, State.Warmed39.refl s, rfl⟩ trivial
  refine ⟨n, _, h1, h2, h3, hpost _ _ _ _ _ _ ⟨Cond.after_iff.mpr rfl, Cond.after_iff.mpr (eq_i res_at (Term.int_eval (1)) rfl), trivial⟩ ⟨hq.1, hq.2.1, (hq.2.2.sift fun y hy => Or.inr (N y hy)).mono (by decide) (by decide)⟩⟩
theorem main_1_1 : Claimed_1_1 := comes_1 fun _ _ _ _ _ _ h hF => ⟨h.1, hF⟩
theorem main_1_2 : Claimed_1_2 := comes_1 fun _ _ _ _ _ _ h hF => ⟨h.2.1, hF⟩
end Jvm.Pilot.@@N@@
namespace Jvm.Pilot.@@N@@
open Jvm Jvm.ClassFile Sem Op Lib Jvm.Free Jvm.Stand Jvm.Pilot.@@N@@.Jvm.D
/-! MADE BY PROGRAM (witnessworld.py) out of the Statement's table words and the real class files: 14 classes; the members and pool entries that the words name. The judged class is class 1, her method 2. -/
namespace start1
open Jvm.ClassFile
def u (s : String) : CpInfo := .utf8 (stringToUtf16 s)
/-- a pool by its gaps: so many unusable entries, then the entry; so many at the end -/
def gap : Nat → List CpInfo → List CpInfo
  | 0, r => r
  | n + 1, r => .unusable :: gap n r
def poolList (es : List (Nat × CpInfo)) (last : Nat) : List CpInfo := es.foldr (fun e r => gap e.1 (e.2 :: r)) (gap last [])
def pool (es : List (Nat × CpInfo)) (last : Nat) : Array CpInfo := ⟨poolList es last⟩
def fileOf (pool : Array CpInfo) (this : Nat) (attrs : Array Attribute := #[]) (ms : Array MethodInfo := #[]) (fl : Nat := 33) (sup : Nat := 0) (ifs : Array Nat := #[]) (fds : Array FieldInfo := #[]) : ClassFile where
  minorVersion := 0
  majorVersion := 65
  constantPool := pool
  accessFlags := fl
  thisClass := this
  superClass := sup
  interfaces := ifs
  fields := fds
  methods := ms
  attributes := attrs
def plain (name : String) (sup : Option ClassId) : Class where
  name := name
  kind := .ordinary
  loader := none
  accessFlags := 33
  super := sup
  interfaces := #[]
  cf := none
  fields := #[]
  methods := #[]
  instanceTypes := #[]
  staticTypes := #[]
  resolved := #[]
  callSites := []
  init := .initialized
  statics := none
  mirror := none

def pool0 : Array CpInfo := pool [(5, u "<init>"), (0, u "()V"), (1, .class_ 10), (1, u "java/lang/Object"), (0, u "getClass"), (0, u "()Ljava/lang/Class;")] 111

def k0m0 : Method := { name := "<init>", desc := "()V", sig := { parameters := [], returnType := none }, accessFlags := 1, code := none }
def k0m1 : Method := { name := "getClass", desc := "()Ljava/lang/Class;", sig := { parameters := [], returnType := some (.object "java/lang/Class") }, accessFlags := 273, code := none }
/-- java/lang/Object -/
def k0 : Class := { plain "java/lang/Object" none with
  accessFlags := 33
  interfaces := #[]
  cf := some (fileOf pool0 8 #[] #[{ accessFlags := 1, nameIndex := 5, descriptorIndex := 6, attributes := #[] }, { accessFlags := 273, nameIndex := 11, descriptorIndex := 12, attributes := #[] }] 33 0 #[] #[])
  fields := #[]
  methods := #[k0m0, k0m1]
  instanceTypes := #[]
  staticTypes := #[]
  resolved := Array.replicate 124 none
  statics := none }

def pool1 : Array CpInfo := pool [(2, .class_ 4), (1, u "java/lang/Object"), (0, u "<init>"), (0, u "()V"), (0, .fieldref 8 9), (0, .class_ 10), (0, .nameAndType 11 12), (0, u "com/example/nevermind/nevermind/reducer/NodeStatus"), (0, u "IDLE"), (0, u "Lcom/example/nevermind/nevermind/reducer/NodeStatus;"), (0, .fieldref 8 14), (0, .nameAndType 15 12), (0, u "READY"), (0, .fieldref 8 17), (0, .nameAndType 18 12), (0, u "RUNNING"), (0, .fieldref 8 20), (0, .nameAndType 21 12), (0, u "WAITING"), (0, .fieldref 8 23), (0, .nameAndType 24 12), (0, u "SUCCEEDED"), (0, .fieldref 8 26), (0, .nameAndType 27 12), (0, u "FAILED"), (0, .fieldref 8 29), (0, .nameAndType 30 12), (0, u "CANCELED"), (0, .integer 2147483647), (0, .methodref 33 34), (0, .class_ 35), (0, .nameAndType 36 37), (0, u "com/example/nevermind/nevermind/reducer/NodeStatusIsFinalPinLaw"), (0, u "pick"), (0, u "(I)Lcom/example/nevermind/nevermind/reducer/NodeStatus;"), (0, .methodref 8 39), (0, .nameAndType 40 41), (0, u "isFinal"), (0, u "()Z"), (3, u "law"), (0, u "(I)Z")] 2

def k1m0 : Method := { name := "<init>", desc := "()V", sig := { parameters := [], returnType := none }, accessFlags := 1, code := none }
def k1c1 : Code := { maxStack := 2, maxLocals := 1, code := method_2_code, exceptionTable := #[], attributes := #[] }
def k1m1 : Method := { name := "pick", desc := "(I)Lcom/example/nevermind/nevermind/reducer/NodeStatus;", sig := { parameters := [.int], returnType := some (.object "com/example/nevermind/nevermind/reducer/NodeStatus") }, accessFlags := 10, code := some k1c1 }
def k1c2 : Code := { maxStack := 2, maxLocals := 4, code := code, exceptionTable := #[], attributes := #[] }
def k1m2 : Method := { name := "law", desc := "(I)Z", sig := { parameters := [.int], returnType := some .boolean }, accessFlags := 9, code := some k1c2 }
/-- com/example/nevermind/nevermind/reducer/NodeStatusIsFinalPinLaw -/
def k1 : Class := { plain "com/example/nevermind/nevermind/reducer/NodeStatusIsFinalPinLaw" (some 0) with
  accessFlags := 49
  interfaces := #[]
  cf := some (fileOf pool1 33 #[] #[{ accessFlags := 1, nameIndex := 5, descriptorIndex := 6, attributes := #[] }, { accessFlags := 10, nameIndex := 36, descriptorIndex := 37, attributes := #[] }, { accessFlags := 9, nameIndex := 45, descriptorIndex := 46, attributes := #[] }] 49 2 #[] #[])
  fields := #[]
  methods := #[k1m0, k1m1, k1m2]
  instanceTypes := #[]
  staticTypes := #[]
  resolved := Array.replicate 49 none
  statics := none }

def pool2 : Array CpInfo := pool [(1, .class_ 2), (0, u "java/lang/constant/Constable"), (0, .class_ 4), (0, u "java/lang/Object")] 6

/-- java/lang/constant/Constable -/
def k2 : Class := { plain "java/lang/constant/Constable" (some 0) with
  accessFlags := 1537
  interfaces := #[]
  cf := some (fileOf pool2 1 #[] #[] 1537 3 #[] #[])
  fields := #[]
  methods := #[]
  instanceTypes := #[]
  staticTypes := #[]
  resolved := Array.replicate 11 none
  statics := none }

def pool3 : Array CpInfo := pool [(1, .class_ 2), (0, u "java/lang/Comparable"), (0, .class_ 4), (0, u "java/lang/Object")] 7

/-- java/lang/Comparable -/
def k3 : Class := { plain "java/lang/Comparable" (some 0) with
  accessFlags := 1537
  interfaces := #[]
  cf := some (fileOf pool3 1 #[] #[] 1537 3 #[] #[])
  fields := #[]
  methods := #[]
  instanceTypes := #[]
  staticTypes := #[]
  resolved := Array.replicate 12 none
  statics := none }

def pool4 : Array CpInfo := pool [(1, .class_ 2), (0, u "java/io/Serializable"), (0, .class_ 4), (0, u "java/lang/Object")] 2

/-- java/io/Serializable -/
def k4 : Class := { plain "java/io/Serializable" (some 0) with
  accessFlags := 1537
  interfaces := #[]
  cf := some (fileOf pool4 1 #[] #[] 1537 3 #[] #[])
  fields := #[]
  methods := #[]
  instanceTypes := #[]
  staticTypes := #[]
  resolved := Array.replicate 7 none
  statics := none }

def pool5 : Array CpInfo := pool [(2, .class_ 4), (1, u "java/lang/Enum"), (0, u "name"), (0, u "Ljava/lang/String;"), (0, .fieldref 2 8), (0, .nameAndType 9 10), (0, u "ordinal"), (0, u "I"), (1, .class_ 14), (1, u "java/lang/Object"), (4, u "hash"), (9, .methodref 12 30), (0, .nameAndType 31 32), (0, u "getClass"), (0, u "()Ljava/lang/Class;"), (70, u "compareTo"), (0, u "(Ljava/lang/Enum;)I"), (1, .class_ 108), (1, u "java/lang/Enum$EnumDesc"), (2, .class_ 112), (0, u "java/lang/constant/Constable"), (0, .class_ 114), (0, u "java/lang/Comparable"), (0, .class_ 116), (0, u "java/io/Serializable")] 87

def k5c0 : Code := { maxStack := 2, maxLocals := 4, code := jdk_37_method_8_code, exceptionTable := #[], attributes := #[] }
def k5m0 : Method := { name := "compareTo", desc := "(Ljava/lang/Enum;)I", sig := { parameters := [(.object "java/lang/Enum")], returnType := some .int }, accessFlags := 17, code := some k5c0 }
/-- java/lang/Enum -/
def k5 : Class := { plain "java/lang/Enum" (some 0) with
  accessFlags := 1057
  interfaces := #[2, 3, 4]
  cf := some (fileOf pool5 2 #[.nestMembers #[106]] #[{ accessFlags := 17, nameIndex := 103, descriptorIndex := 104, attributes := #[] }] 1057 12 #[111, 113, 115] #[{ accessFlags := 18, nameIndex := 5, descriptorIndex := 6, attributes := #[] }, { accessFlags := 18, nameIndex := 9, descriptorIndex := 10, attributes := #[] }, { accessFlags := 2, nameIndex := 19, descriptorIndex := 10, attributes := #[] }])
  fields := #[{ name := "name", type := (.object "java/lang/String"), accessFlags := 18, slot := 0, constantValue := 0 }, { name := "ordinal", type := .int, accessFlags := 18, slot := 1, constantValue := 0 }, { name := "hash", type := .int, accessFlags := 2, slot := 2, constantValue := 0 }]
  methods := #[k5m0]
  instanceTypes := #[(.object "java/lang/String"), .int, .int]
  staticTypes := #[]
  resolved := Array.replicate 204 none
  statics := none }

def pool6 : Array CpInfo := pool [(1, .class_ 2), (0, u "com/example/nevermind/nevermind/reducer/RankedStatus"), (10, .class_ 14), (0, u "java/lang/Object")] 9

/-- com/example/nevermind/nevermind/reducer/RankedStatus -/
def k6 : Class := { plain "com/example/nevermind/nevermind/reducer/RankedStatus" (some 0) with
  accessFlags := 1537
  interfaces := #[]
  cf := some (fileOf pool6 1 #[] #[] 1537 13 #[] #[])
  fields := #[]
  methods := #[]
  instanceTypes := #[]
  staticTypes := #[]
  resolved := Array.replicate 24 none
  statics := none }

def pool7 : Array CpInfo := pool [(1, .class_ 2), (0, u "com/example/nevermind/nevermind/reducer/NodeStatus"), (2, u "IDLE"), (0, u "Lcom/example/nevermind/nevermind/reducer/NodeStatus;"), (2, u "READY"), (2, u "RUNNING"), (2, u "WAITING"), (0, .fieldref 1 17), (0, .nameAndType 18 6), (0, u "SUCCEEDED"), (2, u "FAILED"), (2, u "CANCELED"), (2, u "$VALUES"), (0, u "[Lcom/example/nevermind/nevermind/reducer/NodeStatus;"), (6, .class_ 37), (1, u "java/lang/Enum"), (6, .methodref 1 45), (0, .nameAndType 46 47), (0, u "compareTo"), (0, u "(Ljava/lang/Enum;)I"), (12, .class_ 61), (0, u "com/example/nevermind/nevermind/reducer/RankedStatus"), (7, u "isFinal"), (0, u "()Z")] 5

def k7c0 : Code := { maxStack := 2, maxLocals := 1, code := prog_12_method_4_code, exceptionTable := #[], attributes := #[] }
def k7m0 : Method := { name := "isFinal", desc := "()Z", sig := { parameters := [], returnType := some .boolean }, accessFlags := 1, code := some k7c0 }
/-- com/example/nevermind/nevermind/reducer/NodeStatus -/
def k7 : Class := { plain "com/example/nevermind/nevermind/reducer/NodeStatus" (some 5) with
  accessFlags := 16433
  interfaces := #[6]
  cf := some (fileOf pool7 1 #[] #[{ accessFlags := 1, nameIndex := 69, descriptorIndex := 70, attributes := #[] }] 16433 35 #[60] #[{ accessFlags := 16409, nameIndex := 5, descriptorIndex := 6, attributes := #[] }, { accessFlags := 16409, nameIndex := 9, descriptorIndex := 6, attributes := #[] }, { accessFlags := 16409, nameIndex := 12, descriptorIndex := 6, attributes := #[] }, { accessFlags := 16409, nameIndex := 15, descriptorIndex := 6, attributes := #[] }, { accessFlags := 16409, nameIndex := 18, descriptorIndex := 6, attributes := #[] }, { accessFlags := 16409, nameIndex := 21, descriptorIndex := 6, attributes := #[] }, { accessFlags := 16409, nameIndex := 24, descriptorIndex := 6, attributes := #[] }, { accessFlags := 4122, nameIndex := 27, descriptorIndex := 28, attributes := #[] }])
  fields := #[{ name := "IDLE", type := (.object "com/example/nevermind/nevermind/reducer/NodeStatus"), accessFlags := 16409, slot := 0, constantValue := 0 }, { name := "READY", type := (.object "com/example/nevermind/nevermind/reducer/NodeStatus"), accessFlags := 16409, slot := 1, constantValue := 0 }, { name := "RUNNING", type := (.object "com/example/nevermind/nevermind/reducer/NodeStatus"), accessFlags := 16409, slot := 2, constantValue := 0 }, { name := "WAITING", type := (.object "com/example/nevermind/nevermind/reducer/NodeStatus"), accessFlags := 16409, slot := 3, constantValue := 0 }, { name := "SUCCEEDED", type := (.object "com/example/nevermind/nevermind/reducer/NodeStatus"), accessFlags := 16409, slot := 4, constantValue := 0 }, { name := "FAILED", type := (.object "com/example/nevermind/nevermind/reducer/NodeStatus"), accessFlags := 16409, slot := 5, constantValue := 0 }, { name := "CANCELED", type := (.object "com/example/nevermind/nevermind/reducer/NodeStatus"), accessFlags := 16409, slot := 6, constantValue := 0 }, { name := "$VALUES", type := (.array (.object "com/example/nevermind/nevermind/reducer/NodeStatus")), accessFlags := 4122, slot := 7, constantValue := 0 }]
  methods := #[k7m0]
  instanceTypes := #[(.object "java/lang/String"), .int, .int]
  staticTypes := #[(.object "com/example/nevermind/nevermind/reducer/NodeStatus"), (.object "com/example/nevermind/nevermind/reducer/NodeStatus"), (.object "com/example/nevermind/nevermind/reducer/NodeStatus"), (.object "com/example/nevermind/nevermind/reducer/NodeStatus"), (.object "com/example/nevermind/nevermind/reducer/NodeStatus"), (.object "com/example/nevermind/nevermind/reducer/NodeStatus"), (.object "com/example/nevermind/nevermind/reducer/NodeStatus"), (.array (.object "com/example/nevermind/nevermind/reducer/NodeStatus"))]
  resolved := Array.replicate 76 none
  mirror := some 1
  statics := some 0 }

def pool8 : Array CpInfo := pool [(1, .class_ 2), (0, u "java/lang/Class"), (0, .class_ 4), (0, u "java/lang/Object")] 0

/-- java/lang/Class -/
def k8 : Class := { plain "java/lang/Class" (some 0) with
  accessFlags := 49
  interfaces := #[]
  cf := some (fileOf pool8 1 #[] #[] 49 3 #[] #[])
  fields := #[]
  methods := #[]
  instanceTypes := #[]
  staticTypes := #[]
  resolved := Array.replicate 5 none
  statics := none }

def pool9 : Array CpInfo := pool [(1, u "java/lang/Cloneable"), (0, .class_ 1), (0, u "java/lang/Object"), (0, .class_ 3)] 3

/-- java/lang/Cloneable -/
def k9 : Class := { plain "java/lang/Cloneable" (some 0) with
  accessFlags := 1537
  interfaces := #[]
  cf := some (fileOf pool9 2 #[] #[] 1537 4 #[] #[])
  fields := #[]
  methods := #[]
  instanceTypes := #[]
  staticTypes := #[]
  resolved := Array.replicate 8 none
  statics := none }

/-- the primitive byte -/
def k10 : Class := { plain "byte" none with kind := .primitive 'B', accessFlags := 0x411 }
/-- [B -/
def k11 : Class := { plain "[B" (some 0) with kind := .array 10 .byte, interfaces := #[9, 4], accessFlags := 1041 }

/-- the primitive int -/
def k12 : Class := { plain "int" none with kind := .primitive 'I', accessFlags := 0x411 }
/-- [I -/
def k13 : Class := { plain "[I" (some 0) with kind := .array 12 .int, interfaces := #[9, 4], accessFlags := 1041 }

def heap : Heap := #[{ cls := 7, slots := #[.ref 2, .ref 3, .ref 4, .ref 5, .ref 6, .ref 7, .ref 8, .null], vm := .statics 7 },
  { cls := 8, slots := #[], vm := .mirror 7 },
  { cls := 7, slots := #[.null, .int 0, .int 0], vm := .none },
  { cls := 7, slots := #[.null, .int 1, .int 0], vm := .none },
  { cls := 7, slots := #[.null, .int 2, .int 0], vm := .none },
  { cls := 7, slots := #[.null, .int 3, .int 0], vm := .none },
  { cls := 7, slots := #[.null, .int 4, .int 0], vm := .none },
  { cls := 7, slots := #[.null, .int 5, .int 0], vm := .none },
  { cls := 7, slots := #[.null, .int 6, .int 0], vm := .none }]
def classes : Array Class := #[k0, k1, k2, k3, k4, k5, k6, k7, k8, k9, k10, k11, k12, k13]
def interned : List (Array UInt16 × Addr) := []
def slotsUsed : Nat := 29
def theMethod : MethodId := ⟨1, 2⟩
def args0 : Array Value := #[.int 5]
def aboutOver (below : List Frame) : State where
  vm := { classes := classes, interned := interned.toArray }
  heap := heap
  slotsUsed := slotsUsed
  threads := #[{ frames := .invoking theMethod args0 :: below }]
def below0 : List Frame := [.native { method := ⟨0, 0⟩, args := #[] }]
def about1 : State := aboutOver below0
def p0 : Program := .bare "" "" ""
def e0 : Env := launch0.env 0 0 0
theorem w_frames : about1.frames = Frame.invoking theMethod args0 :: below0 := rfl
set_option maxRecDepth 65536 in
theorem w_args : argsFit about1.vm theMethod args0 = true := by decide +kernel
set_option maxRecDepth 65536 in
theorem w_heap : heapFits about1 = true := by decide +kernel
set_option maxRecDepth 65536 in
theorem w_runnable : about1.curStatus? = some .runnable := by decide +kernel
set_option maxRecDepth 65536 in
theorem w_alone : about1.alone = true := by decide +kernel
set_option maxRecDepth 65536 in
theorem w_named : about1.methodNamed? x = some theMethod := by decide +kernel
set_option maxRecDepth 65536 in
theorem w_hears : about1.hears theMethod below0 = true := by decide +kernel
set_option maxRecDepth 65536 in
theorem w_ripe : about1.ripe theMethod args0 below0 = true := by decide +kernel
theorem w_running : about1.status = .running := rfl
set_option maxRecDepth 65536 in
theorem w_room : about1.hasRoom e0.platform room_1 = true :=
  launch0.hasRoom_least _ room_1 (by decide +kernel) (by decide +kernel) (by decide +kernel) (by decide +kernel) (by decide +kernel) (by decide +kernel)
theorem allAtoms_all (ts : List Jvm.Cond) (a : Array Jvm.Value) (st : Jvm.State) : (allAtoms ts).before a st = ts.all (fun c => c.before a st) := by
  induction ts with
  | nil => rfl
  | cons c t ih =>
    show (Jvm.Cond.and c (allAtoms t)).before a st = _
    rw [Jvm.Cond.before_and, ih, List.all_cons]
def words1 : List Jvm.Cond := Jvm.Cond.code x code maxLocals ret :: tables_1
/-- a 'code' word, met by the world's own term for the bytes: nothing is compared byte by byte -/
theorem code_word {y : MethodName} {bytes : ByteArray} {mx : Nat} {rt : Option FieldType} {a : Array Value} {s : State} {m : MethodId} {meth : Method} {c : Code} (h1 : s.methodNamed? y = some m) (h2 : s.vm.method? m = some meth) (h3 : meth.code = some c) (h4 : c.code = bytes)
    (h5 : (c.maxLocals == mx && c.exceptionTable.isEmpty && decide (c.maxStack ≤ mostOperands) && decide (meth.sig.returnType = rt) && !meth.locks && decide (parseMethodDescriptor y.desc = some meth.sig)) = true) : (Jvm.Cond.code y bytes mx rt).before a s = true := by
  simp only [Bool.and_eq_true, beq_iff_eq, Bool.not_eq_true', decide_eq_true_eq] at h5
  obtain ⟨⟨⟨⟨⟨g1, g2⟩, g3⟩, g4⟩, g5⟩, g6⟩ := h5
  simp [Cond.before, Cond.holds, Cond.value, h1, h2, h3, h4, g1, g2, g3, g4, g5, g6]
def isCode : Jvm.Cond → Bool
  | .code _ _ _ _ => true
  | _ => false
theorem all_split {L : List Jvm.Cond} {P : Jvm.Cond → Bool} (h1 : L.all (fun c => isCode c || P c) = true) (h2 : ∀ c ∈ L.filter isCode, P c = true) : L.all P = true := by
  refine List.all_eq_true.mpr fun c hc => ?_
  have h := List.all_eq_true.mp h1 c hc
  rcases Bool.eq_false_or_eq_true (isCode c) with hi | hi
  · exact h2 c (List.mem_filter.mpr ⟨hc, hi⟩)
  · simpa [hi] using h
set_option maxRecDepth 65536 in
theorem w_c0 : (Jvm.Cond.code x code maxLocals ret).before args0 about1 = true := code_word (m := ⟨1, 2⟩) (meth := k1m2) (c := k1c2) (by decide +kernel) rfl rfl rfl (by decide +kernel)
set_option maxRecDepth 65536 in
theorem w_c1 : (Jvm.Cond.code ({ cls := "com/example/nevermind/nevermind/reducer/NodeStatusIsFinalPinLaw", name := "pick", desc := "(I)Lcom/example/nevermind/nevermind/reducer/NodeStatus;" } : Jvm.MethodName) method_2_code (1 : Nat) (Option.some (Jvm.ClassFile.FieldType.object "com/example/nevermind/nevermind/reducer/NodeStatus"))).before args0 about1 = true := code_word (m := ⟨1, 1⟩) (meth := k1m1) (c := k1c1) (by decide +kernel) rfl rfl rfl (by decide +kernel)
set_option maxRecDepth 65536 in
theorem w_c2 : (Jvm.Cond.code ({ cls := "com/example/nevermind/nevermind/reducer/NodeStatus", name := "isFinal", desc := "()Z" } : Jvm.MethodName) prog_12_method_4_code (1 : Nat) (Option.some Jvm.ClassFile.FieldType.boolean)).before args0 about1 = true := code_word (m := ⟨7, 0⟩) (meth := k7m0) (c := k7c0) (by decide +kernel) rfl rfl rfl (by decide +kernel)
set_option maxRecDepth 65536 in
theorem w_c3 : (Jvm.Cond.code ({ cls := "java/lang/Enum", name := "compareTo", desc := "(Ljava/lang/Enum;)I" } : Jvm.MethodName) jdk_37_method_8_code (4 : Nat) (Option.some Jvm.ClassFile.FieldType.int)).before args0 about1 = true := code_word (m := ⟨5, 0⟩) (meth := k5m0) (c := k5c0) (by decide +kernel) rfl rfl rfl (by decide +kernel)
def codes1 : List Jvm.Cond := [Jvm.Cond.code x code maxLocals ret, Jvm.Cond.code ({ cls := "com/example/nevermind/nevermind/reducer/NodeStatusIsFinalPinLaw", name := "pick", desc := "(I)Lcom/example/nevermind/nevermind/reducer/NodeStatus;" } : Jvm.MethodName) method_2_code (1 : Nat) (Option.some (Jvm.ClassFile.FieldType.object "com/example/nevermind/nevermind/reducer/NodeStatus")), Jvm.Cond.code ({ cls := "com/example/nevermind/nevermind/reducer/NodeStatus", name := "isFinal", desc := "()Z" } : Jvm.MethodName) prog_12_method_4_code (1 : Nat) (Option.some Jvm.ClassFile.FieldType.boolean), Jvm.Cond.code ({ cls := "java/lang/Enum", name := "compareTo", desc := "(Ljava/lang/Enum;)I" } : Jvm.MethodName) jdk_37_method_8_code (4 : Nat) (Option.some Jvm.ClassFile.FieldType.int)]
set_option maxRecDepth 65536 in
theorem codes_eq : words1.filter isCode = codes1 := rfl
theorem w_codes : ∀ c ∈ words1.filter isCode, c.before args0 about1 = true := by
  rw [codes_eq]
  intro c hc
  simp only [codes1, List.mem_cons, List.not_mem_nil, or_false] at hc
  rcases hc with rfl | rfl | rfl | rfl
  · exact w_c0
  · exact w_c1
  · exact w_c2
  · exact w_c3
set_option maxRecDepth 65536 in
theorem w_t1 : (words1.take 24).all (fun c => isCode c || c.before args0 about1) = true := by decide +kernel
set_option maxRecDepth 65536 in
theorem w_t2 : (words1.drop 24).all (fun c => isCode c || c.before args0 about1) = true := by decide +kernel
theorem w_tables : (allAtoms (Jvm.Cond.code x code maxLocals ret :: tables_1)).before args0 about1 = true := by
  rw [allAtoms_all]
  show words1.all (fun c => c.before args0 about1) = true
  refine all_split ?_ w_codes
  rw [← List.take_append_drop 24 words1, List.all_append, w_t1, w_t2]
  rfl
set_option maxRecDepth 65536 in
theorem w_case : (Jvm.Cond.and given_1 narrow_1).before args0 about1 = true := by decide +kernel
theorem w_applies : (headSpec (Jvm.Cond.code x code maxLocals ret :: tables_1) room_1).applies x e0.platform about1 = true :=
  (Spec.applies_iff w_frames).mpr ⟨w_running, w_runnable, w_alone, w_named, w_hears, w_ripe, w_room, w_tables⟩
theorem atStart : AtStart classFile x code maxLocals ret World_1 tables_1 room_1 Calls_1 rest_1 Pre_1 launch0 p0 e0 about1 theMethod args0 below0 :=
  ⟨lists_1, trivial, launch0.admits_env _ _ _, launch0.least_env, fairChoices_fair.cas, fairChoices_fair.clock, w_frames, w_args, w_heap, w_applies, ⟨⟨7, k7, 1, by decide +kernel, rfl, rfl, _, rfl, rfl⟩, trivial⟩, trivial, w_case⟩
end start1
theorem witness_1 : WitnessClaimed_1 := ⟨start1.p0, start1.e0, start1.about1, start1.theMethod, start1.args0, start1.below0, start1.atStart⟩
end Jvm.Pilot.@@N@@

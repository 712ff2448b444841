import JvmDerived
import JvmDerived.Pilot.@@N@@Statement
import JvmDerived.Pilot.@@N@@Code
set_option linter.unusedVariables false
set_option linter.unusedSimpArgs false
namespace Jvm.RoadKit
open Sem ClassFile Op Lib Jvm.Stand Jvm.Free Jvm.LawKit
section New
variable {p : Program} {l : Launch} {e : Env} {R : Room} {s : State} {m : MethodId} {args : Array Value} {below : List Frame} {meth : Method} {c : Code} {T : State} {locs : List Loc} {cells slots : Nat}
theorem retI (X : Stand p l e R s m args below meth c T locs cells slots) (hx : p.tables.exec = Jvm.exec) {pc : Nat} {Ls : Array Slot} {z : Int32} {rest : List Value} (hret : meth.sig.returnType = some .int) (hd : decode c.code pc = .ok (.ireturn, 1)) {fs : List Frame}
    (hl : ∀ (f : JFrame) (acts : List Action), f.method = m → f.locked = none → f.entered = [] → (doReturn e (T.setTop f) acts (some (.int z))).1 = T.setFrames fs) : Steps p.tables e below (T.setTop (mkF m pc Ls (.int z :: rest))) (T.setFrames fs) := by
  have hm' : T.vm.method? m = some meth := X.method'
  have hn : narrow .int (.int z) = .int z := rfl
  show Steps p.tables e below (T.setTop { method := m, pc := pc, locals := Ls, stack := _ :: rest, locked := none }) _
  jvm_step X.here [X.here.top, hx, hd, hm', hret, hn]
  first | (intro acts; rw [hl _ acts rfl rfl rfl]) | rw [hl _ _ rfl rfl rfl]
  exact Steps.refl _
end New
end Jvm.RoadKit
namespace Jvm.Pilot.@@N@@
open Jvm Jvm.ClassFile Sem Op Lib Jvm.Free Jvm.Stand Jvm.LawKit Jvm.RoadKit Bundle Jvm.Pilot.@@N@@.Jvm.D
theorem own_eqint {args : Array Value} {first s : State} {o : Option Outcome} {idx : List Nat} {t : Term} {k : Int32} (h : (Jvm.Cond.eq t (.int k)).value args first o s idx = some true) : t.eval args first o idx s = some (.int k) := by
  obtain ⟨x, y, hx, hy, hk, hk'⟩ := cmp_v (Or.inl h)
  have ey : y = .int k := (Option.some.inj ((Term.int_eval k).symm.trans hy)).symm
  subst ey
  obtain ⟨z, rfl⟩ := hk'
  have hv : (Jvm.Cond.eq t (.int k)).value args first o s idx = some (decide (z = k)) := by simp [Cond.value, hx, hy]
  have := gotT hv h
  rw [hx, this]
theorem own_eqref {args : Array Value} {first s : State} {o : Option Outcome} {idx : List Nat} {t u : Term} {v : Value} (h : (Jvm.Cond.eq t u).value args first o s idx = some true) (hu : u.eval args first o idx s = some v) (hv : v.isRef = true) : t.eval args first o idx s = some v := by
  obtain ⟨x, y, hx, hy, hk, hk'⟩ := cmp_v (Or.inl h)
  have ey : y = v := Option.some.inj (hy.symm.trans hu)
  subst ey
  have hxr : x.isRef = true := by cases y <;> simp [Value.isRef] at hv <;> exact hk'.2
  have := gotT (eq_R hx hy hxr hv) h
  rw [hx, this]
theorem own_fld {args : Array Value} {s : State} {t : Term} {C n d : String} {k : Int32} {a : Addr} (ht : t.eval args s none [] s = some (.ref a)) (h : (Jvm.Cond.eq (.field t C n d) (.int k)).value args s none s [] = some true) : Fld s s.heap a C n d (.int k) := Fld.start ((fld_at ht).symm.trans (own_eqint h))
theorem own_fld_inj {Z : State} {h : Heap} {a : Addr} {C n d : String} {v w : Value} (F : Fld Z h a C n d v) (G : Fld Z h a C n d w) : v = w := by
  obtain ⟨c1, cf1, k1, i1, f1, h1, h2, -, -, -, -, h3⟩ := F
  obtain ⟨c2, cf2, k2, i2, f2, g1, g2, -, -, -, -, g3⟩ := G
  rw [h1] at g1; cases g1
  rw [h2] at g2; cases g2
  exact Option.some.inj (h3.symm.trans g3)
theorem own_ne {Z : State} {h : Heap} {a b : Addr} {C n d : String} {i j : Int32} (F : Fld Z h a C n d (.int i)) (G : Fld Z h b C n d (.int j)) (hij : ¬ i = j) : ¬ a = b := fun e => by
  subst e
  exact hij (Value.int.inj (own_fld_inj F G))
theorem own_keep_ext {h h' : Heap} (K : Keep h h' []) : Ext h h' := ⟨K.1, fun a c q => K.2.1 a c q nin0⟩
theorem own_sta_keep {Z : State} {h h' : Heap} {C n d C' : String} {v : Value} {b : Addr} (F : Sta Z h C n d v) (K : Keep h h' [b]) (E : Exa Z h b C') : Sta Z h' C n d v := by
  obtain ⟨cf, i, k, f, st, cell, h1, h2, h3, h4, h5, h6, h7⟩ := F
  obtain ⟨cell', k', g1, g2, g3, g4, g5⟩ := E
  refine ⟨cf, i, k, f, st, cell, h1, h2, h3, h4, K.2.1 st cell h5 (ninS (fun q => ?_) nin0), h6, h7⟩
  subst q
  rw [h5] at g1; cases g1
  rw [h6] at g4; cases g4
theorem own_ite {α : Type} (P : Prop) [Decidable P] (x y : α) : (if P then x else y) = bif decide P then x else y := by by_cases h : P <;> simp [h]
def maxW (a b : Int32) : Int32 := if a < b then b else a
def minW (a b : Int32) : Int32 := if b < a then b else a
def wbF (q : Int64) : Int32 := if (lcmpW q (40000 : Int64)) < (0 : Int32) then (1 : Int32) else (0 : Int32)
def boF (gu bo : Int32) (q : Int64) : Int32 := if gu = (0 : Int32) then bo else if (lcmpW q (80000 : Int64)) < (0 : Int32) then minW (256 : Int32) (maxW (1 : Int32) ((2 : Int32) * bo)) else bo
def unF (gu bo un : Int32) (q : Int64) : Int32 := if gu = (0 : Int32) then un else if (lcmpW q (80000 : Int64)) < (0 : Int32) then minW (256 : Int32) (maxW (1 : Int32) ((2 : Int32) * bo)) else un
def foF (p bo : Int32) : Int32 := if p = (0 : Int32) then bo / (2 : Int32) else bo
def plF (pr wb un p : Int32) : Int32 := if wb = (0 : Int32) then (0 : Int32) else if (1 : Int32) < pr then if p < pr then if (0 : Int32) < un then (0 : Int32) else (1 : Int32) else (0 : Int32) else (0 : Int32)
def unP (pr wb un p : Int32) : Int32 := if wb = (0 : Int32) then un else if (1 : Int32) < pr then if p < pr then if (0 : Int32) < un then un - (1 : Int32) else un else un else un
theorem d5_0 : decode jdk_29_method_65_code 0 = .ok (.iload_n 0, 1) := by decide +kernel
theorem d5_1 : decode jdk_29_method_65_code 1 = .ok (.iload_n 1, 1) := by decide +kernel
theorem d5_2 : decode jdk_29_method_65_code 2 = .ok (.if_icmp .lt 7, 3) := by decide +kernel
theorem d5_5 : decode jdk_29_method_65_code 5 = .ok (.iload_n 0, 1) := by decide +kernel
theorem d5_6 : decode jdk_29_method_65_code 6 = .ok (.goto 4, 3) := by decide +kernel
theorem d5_9 : decode jdk_29_method_65_code 9 = .ok (.iload_n 1, 1) := by decide +kernel
theorem d5_10 : decode jdk_29_method_65_code 10 = .ok (.ireturn, 1) := by decide +kernel
theorem ef_rmMax (m : MethodId) (p1 : Int32) (p2 : Int32) : entryFrame m #[(.int p1), (.int p2)] 2 = mkF m 0 #[.val (.int p1), .val (.int p2)] [] := by first | (simp [entryFrame, mkF, argsToLocals, Value.category]; done) | rfl
def Q_rmMax (Z : State) (p1 : Int32) (p2 : Int32) (r : Int32) (h0 : Heap) (n0 : Nat) (v : Option Value) (h : Heap) (L : List Loc) : Prop := v = some (.int r) ∧ Fr n0 L ∧ h = h0
set_option maxRecDepth 65536 in
set_option maxHeartbeats 40000000 in
theorem rmMax (l : Launch) (Z : State) (a0 : Array Value) (hw : ∀ d ∈ tables_1, d.before a0 Z = true) (ws : List Jvm.Cond) (p1 : Int32) (p2 : Int32) (r : Int32) (h0 : Heap) (n0 : Nat) (Z0 : n0 ≤ h0.size) (hret : maxW p1 p2 = r) :
    MetFree l (⟨"java/lang/Math", "max", "(II)I"⟩ : MethodName) (head1 (Jvm.Cond.code (⟨"java/lang/Math", "max", "(II)I"⟩ : MethodName) jdk_29_method_65_code 2 (some .int) :: ws) ({ frames := 0, cells := 0, slots := 0, locals := 0 } : Room)) (fun a U => a = #[(.int p1), (.int p2)] ∧ Z.Warmed39 U.vm ∧ U.heap = h0) (fun _ _ _ _ _ => True) (fun _ U o U' => ∃ v L, o = .returned v ∧ Q_rmMax Z p1 p2 r h0 n0 v U'.heap L ∧ FrameEnd U o U' L ({ frames := 0, cells := 0, slots := 0, locals := 0 } : Room).cells ({ frames := 0, cells := 0, slots := 0, locals := 0 } : Room).slots) := by
  refine MetFree.of_bodySF (Jvm.Free.JP.mathPlain rfl (by decide +kernel)) hisR ?_
  intro p e s m args below meth c s₁ Bd hml0 hP hK
  obtain ⟨rfl, hZ, hh⟩ := hP
  have hx := Bd.exec
  have hby := Bd.bytes
  have hml : c.maxLocals = 2 := hml0
  have hown : s.vm.findClass "java/lang/Math" = some m.cls := findClass_of_methodNamed Bd.named
  have hnm := (name_of_methodNamed Bd.named Bd.method).1
  have X0 : Stand p l e ({ frames := 0, cells := 0, slots := 0, locals := 0 } : Room) s m #[(.int p1), (.int p2)] below meth c s₁ [] 0 0 := Stand.of_body Bd
  have e0 : s₁.heap = h0 := by rw [← hh, Bd.state]; rfl
  have N0 := Fr.nil n0
  have pre0 : ∀ t, Steps p.tables e below (s₁.setTop (mkF m 0 #[.val (.int p1), .val (.int p2)] [])) t → Steps p.tables e below (s₁.setTop (entryFrame m #[(.int p1), (.int p2)] 2)) t := fun t k => castTop (ef_rmMax m p1 p2) k
  have pre1 : ∀ t, Steps p.tables e below (s₁.setTop (mkF m 2 #[.val (.int p1), .val (.int p2)] [(.int p2), (.int p1)])) t → Steps p.tables e below (s₁.setTop (entryFrame m #[(.int p1), (.int p2)] 2)) t := fun t k => pre0 t (by
      show Steps p.tables e below (s₁.setTop (mkF m 0 #[.val (.int p1), .val (.int p2)] [])) _
      refine XS.iloadN X0.here hx rfl (hb hby d5_0) rfl ?_
      show Steps p.tables e below (s₁.setTop (mkF m 1 #[.val (.int p1), .val (.int p2)] [(.int p1)])) _
      refine XS.iloadN X0.here hx rfl (hb hby d5_1) rfl ?_
      exact k)
  by_cases hc2 : p1 < p2
  · obtain ⟨fs, hr, hrun, hended, hW, hsame⟩ := X0.leave (v := some (.int p2)) (fun h => by rw [Bd.returns] at h; cases h)
    refine ⟨_, _, pre1 _ ?_, hrun, hended, _, _, rfl, ?_, ⟨_, rfl⟩, hW, hsame.mono (by decide) (by decide)⟩
    · show Steps p.tables e below (s₁.setTop (mkF m 2 #[.val (.int p1), .val (.int p2)] [(.int p2), (.int p1)])) _
      refine XS.icmpYes X0.here hx rfl (pc0 := 2) (pc' := 9) rfl (hb hby d5_2) rfl (tlt hc2).1 (by decide) (by decide) ?_
      show Steps p.tables e below (s₁.setTop (mkF m 9 #[.val (.int p1), .val (.int p2)] [])) _
      refine XS.iloadN X0.here hx rfl (hb hby d5_9) rfl ?_
      show Steps p.tables e below (s₁.setTop (mkF m 10 #[.val (.int p1), .val (.int p2)] [(.int p2)])) _
      exact retI X0 hx Bd.returns (hb hby d5_10) hr
    · show Q_rmMax Z p1 p2 r h0 n0 _ s₁.heap _
      rw [e0]
      exact ⟨by rw [← hret]; simp only [maxW, if_pos hc2], N0, rfl⟩
  · obtain ⟨fs, hr, hrun, hended, hW, hsame⟩ := X0.leave (v := some (.int p1)) (fun h => by rw [Bd.returns] at h; cases h)
    refine ⟨_, _, pre1 _ ?_, hrun, hended, _, _, rfl, ?_, ⟨_, rfl⟩, hW, hsame.mono (by decide) (by decide)⟩
    · show Steps p.tables e below (s₁.setTop (mkF m 2 #[.val (.int p1), .val (.int p2)] [(.int p2), (.int p1)])) _
      refine XS.icmpNo X0.here hx rfl (hb hby d5_2) rfl (flt hc2).1 ?_
      show Steps p.tables e below (s₁.setTop (mkF m 5 #[.val (.int p1), .val (.int p2)] [])) _
      refine XS.iloadN X0.here hx rfl (hb hby d5_5) rfl ?_
      show Steps p.tables e below (s₁.setTop (mkF m 6 #[.val (.int p1), .val (.int p2)] [(.int p1)])) _
      refine XS.goto X0.here hx rfl (pc0 := 6) (pc' := 10) rfl (hb hby d5_6) (by decide) (by decide) ?_
      show Steps p.tables e below (s₁.setTop (mkF m 10 #[.val (.int p1), .val (.int p2)] [(.int p1)])) _
      exact retI X0 hx Bd.returns (hb hby d5_10) hr
    · show Q_rmMax Z p1 p2 r h0 n0 _ s₁.heap _
      rw [e0]
      exact ⟨by rw [← hret]; simp only [maxW, if_neg hc2], N0, rfl⟩
theorem d6_0 : decode jdk_29_method_69_code 0 = .ok (.iload_n 0, 1) := by decide +kernel
theorem d6_1 : decode jdk_29_method_69_code 1 = .ok (.iload_n 1, 1) := by decide +kernel
theorem d6_2 : decode jdk_29_method_69_code 2 = .ok (.if_icmp .gt 7, 3) := by decide +kernel
theorem d6_5 : decode jdk_29_method_69_code 5 = .ok (.iload_n 0, 1) := by decide +kernel
theorem d6_6 : decode jdk_29_method_69_code 6 = .ok (.goto 4, 3) := by decide +kernel
theorem d6_9 : decode jdk_29_method_69_code 9 = .ok (.iload_n 1, 1) := by decide +kernel
theorem d6_10 : decode jdk_29_method_69_code 10 = .ok (.ireturn, 1) := by decide +kernel
theorem ef_rmMin (m : MethodId) (p1 : Int32) (p2 : Int32) : entryFrame m #[(.int p1), (.int p2)] 2 = mkF m 0 #[.val (.int p1), .val (.int p2)] [] := by first | (simp [entryFrame, mkF, argsToLocals, Value.category]; done) | rfl
def Q_rmMin (Z : State) (p1 : Int32) (p2 : Int32) (r : Int32) (h0 : Heap) (n0 : Nat) (v : Option Value) (h : Heap) (L : List Loc) : Prop := v = some (.int r) ∧ Fr n0 L ∧ h = h0
set_option maxRecDepth 65536 in
set_option maxHeartbeats 40000000 in
theorem rmMin (l : Launch) (Z : State) (a0 : Array Value) (hw : ∀ d ∈ tables_1, d.before a0 Z = true) (ws : List Jvm.Cond) (p1 : Int32) (p2 : Int32) (r : Int32) (h0 : Heap) (n0 : Nat) (Z0 : n0 ≤ h0.size) (hret : minW p1 p2 = r) :
    MetFree l (⟨"java/lang/Math", "min", "(II)I"⟩ : MethodName) (head1 (Jvm.Cond.code (⟨"java/lang/Math", "min", "(II)I"⟩ : MethodName) jdk_29_method_69_code 2 (some .int) :: ws) ({ frames := 0, cells := 0, slots := 0, locals := 0 } : Room)) (fun a U => a = #[(.int p1), (.int p2)] ∧ Z.Warmed39 U.vm ∧ U.heap = h0) (fun _ _ _ _ _ => True) (fun _ U o U' => ∃ v L, o = .returned v ∧ Q_rmMin Z p1 p2 r h0 n0 v U'.heap L ∧ FrameEnd U o U' L ({ frames := 0, cells := 0, slots := 0, locals := 0 } : Room).cells ({ frames := 0, cells := 0, slots := 0, locals := 0 } : Room).slots) := by
  refine MetFree.of_bodySF (Jvm.Free.JP.mathPlain rfl (by decide +kernel)) hisR ?_
  intro p e s m args below meth c s₁ Bd hml0 hP hK
  obtain ⟨rfl, hZ, hh⟩ := hP
  have hx := Bd.exec
  have hby := Bd.bytes
  have hml : c.maxLocals = 2 := hml0
  have hown : s.vm.findClass "java/lang/Math" = some m.cls := findClass_of_methodNamed Bd.named
  have hnm := (name_of_methodNamed Bd.named Bd.method).1
  have X0 : Stand p l e ({ frames := 0, cells := 0, slots := 0, locals := 0 } : Room) s m #[(.int p1), (.int p2)] below meth c s₁ [] 0 0 := Stand.of_body Bd
  have e0 : s₁.heap = h0 := by rw [← hh, Bd.state]; rfl
  have N0 := Fr.nil n0
  have pre0 : ∀ t, Steps p.tables e below (s₁.setTop (mkF m 0 #[.val (.int p1), .val (.int p2)] [])) t → Steps p.tables e below (s₁.setTop (entryFrame m #[(.int p1), (.int p2)] 2)) t := fun t k => castTop (ef_rmMin m p1 p2) k
  have pre1 : ∀ t, Steps p.tables e below (s₁.setTop (mkF m 2 #[.val (.int p1), .val (.int p2)] [(.int p2), (.int p1)])) t → Steps p.tables e below (s₁.setTop (entryFrame m #[(.int p1), (.int p2)] 2)) t := fun t k => pre0 t (by
      show Steps p.tables e below (s₁.setTop (mkF m 0 #[.val (.int p1), .val (.int p2)] [])) _
      refine XS.iloadN X0.here hx rfl (hb hby d6_0) rfl ?_
      show Steps p.tables e below (s₁.setTop (mkF m 1 #[.val (.int p1), .val (.int p2)] [(.int p1)])) _
      refine XS.iloadN X0.here hx rfl (hb hby d6_1) rfl ?_
      exact k)
  by_cases hc2 : p2 < p1
  · obtain ⟨fs, hr, hrun, hended, hW, hsame⟩ := X0.leave (v := some (.int p2)) (fun h => by rw [Bd.returns] at h; cases h)
    refine ⟨_, _, pre1 _ ?_, hrun, hended, _, _, rfl, ?_, ⟨_, rfl⟩, hW, hsame.mono (by decide) (by decide)⟩
    · show Steps p.tables e below (s₁.setTop (mkF m 2 #[.val (.int p1), .val (.int p2)] [(.int p2), (.int p1)])) _
      refine XS.icmpYes X0.here hx rfl (pc0 := 2) (pc' := 9) rfl (hb hby d6_2) rfl (tlt hc2).2.2.1 (by decide) (by decide) ?_
      show Steps p.tables e below (s₁.setTop (mkF m 9 #[.val (.int p1), .val (.int p2)] [])) _
      refine XS.iloadN X0.here hx rfl (hb hby d6_9) rfl ?_
      show Steps p.tables e below (s₁.setTop (mkF m 10 #[.val (.int p1), .val (.int p2)] [(.int p2)])) _
      exact retI X0 hx Bd.returns (hb hby d6_10) hr
    · show Q_rmMin Z p1 p2 r h0 n0 _ s₁.heap _
      rw [e0]
      exact ⟨by rw [← hret]; simp only [minW, if_pos hc2], N0, rfl⟩
  · obtain ⟨fs, hr, hrun, hended, hW, hsame⟩ := X0.leave (v := some (.int p1)) (fun h => by rw [Bd.returns] at h; cases h)
    refine ⟨_, _, pre1 _ ?_, hrun, hended, _, _, rfl, ?_, ⟨_, rfl⟩, hW, hsame.mono (by decide) (by decide)⟩
    · show Steps p.tables e below (s₁.setTop (mkF m 2 #[.val (.int p1), .val (.int p2)] [(.int p2), (.int p1)])) _
      refine XS.icmpNo X0.here hx rfl (hb hby d6_2) rfl (flt hc2).2.2.1 ?_
      show Steps p.tables e below (s₁.setTop (mkF m 5 #[.val (.int p1), .val (.int p2)] [])) _
      refine XS.iloadN X0.here hx rfl (hb hby d6_5) rfl ?_
      show Steps p.tables e below (s₁.setTop (mkF m 6 #[.val (.int p1), .val (.int p2)] [(.int p1)])) _
      refine XS.goto X0.here hx rfl (pc0 := 6) (pc' := 10) rfl (hb hby d6_6) (by decide) (by decide) ?_
      show Steps p.tables e below (s₁.setTop (mkF m 10 #[.val (.int p1), .val (.int p2)] [(.int p1)])) _
      exact retI X0 hx Bd.returns (hb hby d6_10) hr
    · show Q_rmMin Z p1 p2 r h0 n0 _ s₁.heap _
      rw [e0]
      exact ⟨by rw [← hret]; simp only [minW, if_neg hc2], N0, rfl⟩
theorem d1_0 : decode prog_44_method_1_code 0 = .ok (.aload_n 0, 1) := by decide +kernel
theorem d1_1 : decode prog_44_method_1_code 1 = .ok (.invokespecial 1, 3) := by decide +kernel
theorem d1_4 : decode prog_44_method_1_code 4 = .ok (.aload_n 0, 1) := by decide +kernel
theorem d1_5 : decode prog_44_method_1_code 5 = .ok (.iload_n 1, 1) := by decide +kernel
theorem d1_6 : decode prog_44_method_1_code 6 = .ok (.putfield 7, 3) := by decide +kernel
theorem d1_9 : decode prog_44_method_1_code 9 = .ok (.return_, 1) := by decide +kernel
theorem pn_rmI : plainName "com/example/bouncer/bouncer/http/Polling" = true := by first | (simp [plainName, overriddenIn]; done) | decide +kernel
theorem ef_rmI (m : MethodId) (a1 : Addr) (p2 : Int32) : entryFrame m #[(.ref a1), (.int p2)] 2 = mkF m 0 #[.val (.ref a1), .val (.int p2)] [] := by first | (simp [entryFrame, mkF, argsToLocals, Value.category]; done) | rfl
def Q_rmI (Z : State) (a1 : Addr) (p2 : Int32) (pr : Int32) (wb : Int32) (gu : Int32) (bo : Int32) (un : Int32) (pr' : Int32) (wb' : Int32) (gu' : Int32) (bo' : Int32) (un' : Int32) (h0 : Heap) (n0 : Nat) (v : Option Value) (h : Heap) (L : List Loc) : Prop := v = none ∧ Fr n0 L ∧ Keep h0 h [a1] ∧ Exa Z h a1 "com/example/bouncer/bouncer/http/Polling" ∧ Fld Z h a1 "com/example/bouncer/bouncer/http/Polling" "processors" "I" (.int pr') ∧ Fld Z h a1 "com/example/bouncer/bouncer/http/Polling" "waitedBriefly" "Z" (.int wb') ∧ Fld Z h a1 "com/example/bouncer/bouncer/http/Polling" "gaveUp" "Z" (.int gu') ∧ Fld Z h a1 "com/example/bouncer/bouncer/http/Polling" "backoff" "I" (.int bo') ∧ Fld Z h a1 "com/example/bouncer/bouncer/http/Polling" "unpolled" "I" (.int un')
set_option maxRecDepth 65536 in
set_option maxHeartbeats 40000000 in
theorem rmI (l : Launch) (Z : State) (a0 : Array Value) (hw : ∀ d ∈ tables_1, d.before a0 Z = true) (ws : List Jvm.Cond) (a1 : Addr) (p2 : Int32) (pr : Int32) (wb : Int32) (gu : Int32) (bo : Int32) (un : Int32) (pr' : Int32) (wb' : Int32) (gu' : Int32) (bo' : Int32) (un' : Int32) (h0 : Heap) (n0 : Nat) (Z0 : n0 ≤ h0.size) (E_a1 : Exa Z h0 a1 "com/example/bouncer/bouncer/http/Polling") (F_processors : Fld Z h0 a1 "com/example/bouncer/bouncer/http/Polling" "processors" "I" (.int pr)) (F_waitedBriefly : Fld Z h0 a1 "com/example/bouncer/bouncer/http/Polling" "waitedBriefly" "Z" (.int wb)) (F_gaveUp : Fld Z h0 a1 "com/example/bouncer/bouncer/http/Polling" "gaveUp" "Z" (.int gu)) (F_backoff : Fld Z h0 a1 "com/example/bouncer/bouncer/http/Polling" "backoff" "I" (.int bo)) (F_unpolled : Fld Z h0 a1 "com/example/bouncer/bouncer/http/Polling" "unpolled" "I" (.int un)) (g_a1 : n0 ≤ a1) (h_pr : p2 = pr') (h_wb : wb = wb') (h_gu : gu = gu') (h_bo : bo = bo') (h_un : un = un') :
    MetFree l (⟨"com/example/bouncer/bouncer/http/Polling", "<init>", "(I)V"⟩ : MethodName) (head1 (Jvm.Cond.code (⟨"com/example/bouncer/bouncer/http/Polling", "<init>", "(I)V"⟩ : MethodName) prog_44_method_1_code 2 none :: ws) ({ frames := 1, cells := 0, slots := 0, locals := 12 } : Room)) (fun a U => a = #[(.ref a1), (.int p2)] ∧ Z.Warmed39 U.vm ∧ U.heap = h0) (fun _ _ _ _ _ => True) (fun _ U o U' => ∃ v L, o = .returned v ∧ Q_rmI Z a1 p2 pr wb gu bo un pr' wb' gu' bo' un' h0 n0 v U'.heap L ∧ FrameEnd U o U' L ({ frames := 1, cells := 0, slots := 0, locals := 12 } : Room).cells ({ frames := 1, cells := 0, slots := 0, locals := 12 } : Room).slots) := by
  refine MetFree.of_bodySF (plainFor_of_name pn_rmI) hisR ?_
  intro p e s m args below meth c s₁ Bd hml0 hP hK
  obtain ⟨rfl, hZ, hh⟩ := hP
  have hx := Bd.exec
  have hby := Bd.bytes
  have hml : c.maxLocals = 2 := hml0
  have hown : s.vm.findClass "com/example/bouncer/bouncer/http/Polling" = some m.cls := findClass_of_methodNamed Bd.named
  have hnm := (name_of_methodNamed Bd.named Bd.method).1
  have X0 : Stand p l e ({ frames := 1, cells := 0, slots := 0, locals := 12 } : Room) s m #[(.ref a1), (.int p2)] below meth c s₁ [] 0 0 := Stand.of_body Bd
  have e0 : s₁.heap = h0 := by rw [← hh, Bd.state]; rfl
  have N0 := Fr.nil n0
  have pre0 : ∀ t, Steps p.tables e below (s₁.setTop (mkF m 0 #[.val (.ref a1), .val (.int p2)] [])) t → Steps p.tables e below (s₁.setTop (entryFrame m #[(.ref a1), (.int p2)] 2)) t := fun t k => castTop (ef_rmI m a1 p2) k
  obtain ⟨T1, X1, e1, st1⟩ := initO X0 hx hZ hown (hw _ (List.mem_of_getElem? (i := 6) rfl)) (hw _ (List.mem_of_getElem? (i := 7) rfl)) (hw _ (List.mem_of_getElem? (i := 8) rfl)) e0 (g := (mkF m 1 #[.val (.ref a1), .val (.int p2)] [(.ref a1)])) rfl (by rw [hml]; rfl) rfl (hb hby d1_1) (by decide) (W := 0) (by show 2 * 0 + _ ≤ _; exact Nat.le_of_eq rfl) (by decide)
  obtain ⟨T2, h2, X2, e2, W2, st2⟩ := putF X1 hx hZ hown (host := "") (Or.inl (hw _ (List.mem_of_getElem? (i := 9) rfl))) Via.refl e1 F_processors E_a1 (Or.inr ⟨(hw _ (List.mem_of_getElem? (i := 10) rfl)), rfl, hnm⟩) (hw _ (List.mem_of_getElem? (i := 1) rfl)) (ty := .int) (by decide) rfl rfl (g := (mkF m 6 #[.val (.ref a1), .val (.int p2)] [(.int p2), (.ref a1)])) rfl rfl (hb hby d1_6)
  have Fw2 : Fld Z h2 a1 "com/example/bouncer/bouncer/http/Polling" "processors" "I" (.int p2) := F_processors.same W2
  have K2 : Keep h0 h2 [a1] := ((Keep.refl h0 [a1])).wr W2 (Or.inl (List.mem_of_getElem? (i := 0) rfl))
  have N2 := Fr.snoc X2 N0 g_a1
  have f3 := (Exa.wr W2 E_a1)
  have f4 := (Fld.other W2 F_waitedBriefly (Or.inr (slot_ne (Or.inl (hw _ (List.mem_of_getElem? (i := 26) rfl))) (Or.inr (hw _ (List.mem_of_getElem? (i := 10) rfl))) (by decide) (t := .boolean) (t' := .int) (by decide) (by decide))))
  have f5 := (Fld.other W2 F_gaveUp (Or.inr (slot_ne (Or.inl (hw _ (List.mem_of_getElem? (i := 17) rfl))) (Or.inr (hw _ (List.mem_of_getElem? (i := 10) rfl))) (by decide) (t := .boolean) (t' := .int) (by decide) (by decide))))
  have f6 := (Fld.other W2 F_backoff (Or.inr (slot_ne (Or.inl (hw _ (List.mem_of_getElem? (i := 29) rfl))) (Or.inr (hw _ (List.mem_of_getElem? (i := 10) rfl))) (by decide) (t := .int) (t' := .int) (by decide) (by decide))))
  have f7 := (Fld.other W2 F_unpolled (Or.inr (slot_ne (Or.inl (hw _ (List.mem_of_getElem? (i := 38) rfl))) (Or.inr (hw _ (List.mem_of_getElem? (i := 10) rfl))) (by decide) (t := .int) (t' := .int) (by decide) (by decide))))
  obtain ⟨fs, hr, hrun, hended, hW, hsame⟩ := X2.leave (v := none) (fun _ => rfl)
  refine ⟨_, _, pre0 _ ?_, hrun, hended, _, _, rfl, ?_, ⟨_, rfl⟩, hW, hsame.mono (by decide) (by decide)⟩
  · show Steps p.tables e below (s₁.setTop (mkF m 0 #[.val (.ref a1), .val (.int p2)] [])) _
    refine XS.aloadN X0.here hx rfl (hb hby d1_0) rfl rfl ?_
    show Steps p.tables e below (s₁.setTop (mkF m 1 #[.val (.ref a1), .val (.int p2)] [(.ref a1)])) _
    refine st1 _ ?_
    show Steps p.tables e below (T1.setTop (mkF m 4 #[.val (.ref a1), .val (.int p2)] [])) _
    refine XS.aloadN X1.here hx rfl (hb hby d1_4) rfl rfl ?_
    show Steps p.tables e below (T1.setTop (mkF m 5 #[.val (.ref a1), .val (.int p2)] [(.ref a1)])) _
    refine XS.iloadN X1.here hx rfl (hb hby d1_5) rfl ?_
    show Steps p.tables e below (T1.setTop (mkF m 6 #[.val (.ref a1), .val (.int p2)] [(.int p2), (.ref a1)])) _
    refine st2 _ ?_
    show Steps p.tables e below (T2.setTop (mkF m 9 #[.val (.ref a1), .val (.int p2)] [])) _
    exact X2.returnOut hx Bd.returns (hb hby d1_9) hr
  · show Q_rmI Z a1 p2 pr wb gu bo un pr' wb' gu' bo' un' h0 n0 _ T2.heap _
    rw [e2]
    exact ⟨rfl, N2, K2, f3, (by rw [← h_pr]; exact Fw2), (by rw [← h_wb]; exact f4), (by rw [← h_gu]; exact f5), (by rw [← h_bo]; exact f6), (by rw [← h_un]; exact f7)⟩
theorem d3_0 : decode prog_44_method_4_code 0 = .ok (.aload_n 0, 1) := by decide +kernel
theorem d3_1 : decode prog_44_method_4_code 1 = .ok (.iconst 1, 1) := by decide +kernel
theorem d3_2 : decode prog_44_method_4_code 2 = .ok (.putfield 23, 3) := by decide +kernel
theorem d3_5 : decode prog_44_method_4_code 5 = .ok (.return_, 1) := by decide +kernel
theorem pn_rmG : plainName "com/example/bouncer/bouncer/http/Polling" = true := by first | (simp [plainName, overriddenIn]; done) | decide +kernel
theorem ef_rmG (m : MethodId) (a1 : Addr) : entryFrame m #[(.ref a1)] 1 = mkF m 0 #[.val (.ref a1)] [] := by first | (simp [entryFrame, mkF, argsToLocals, Value.category]; done) | rfl
def Q_rmG (Z : State) (a1 : Addr) (pr : Int32) (wb : Int32) (gu : Int32) (bo : Int32) (un : Int32) (pr' : Int32) (wb' : Int32) (gu' : Int32) (bo' : Int32) (un' : Int32) (h0 : Heap) (n0 : Nat) (v : Option Value) (h : Heap) (L : List Loc) : Prop := v = none ∧ Fr n0 L ∧ Keep h0 h [a1] ∧ Exa Z h a1 "com/example/bouncer/bouncer/http/Polling" ∧ Fld Z h a1 "com/example/bouncer/bouncer/http/Polling" "processors" "I" (.int pr') ∧ Fld Z h a1 "com/example/bouncer/bouncer/http/Polling" "waitedBriefly" "Z" (.int wb') ∧ Fld Z h a1 "com/example/bouncer/bouncer/http/Polling" "gaveUp" "Z" (.int gu') ∧ Fld Z h a1 "com/example/bouncer/bouncer/http/Polling" "backoff" "I" (.int bo') ∧ Fld Z h a1 "com/example/bouncer/bouncer/http/Polling" "unpolled" "I" (.int un')
set_option maxRecDepth 65536 in
set_option maxHeartbeats 40000000 in
theorem rmG (l : Launch) (Z : State) (a0 : Array Value) (hw : ∀ d ∈ tables_1, d.before a0 Z = true) (ws : List Jvm.Cond) (a1 : Addr) (pr : Int32) (wb : Int32) (gu : Int32) (bo : Int32) (un : Int32) (pr' : Int32) (wb' : Int32) (gu' : Int32) (bo' : Int32) (un' : Int32) (h0 : Heap) (n0 : Nat) (Z0 : n0 ≤ h0.size) (E_a1 : Exa Z h0 a1 "com/example/bouncer/bouncer/http/Polling") (F_processors : Fld Z h0 a1 "com/example/bouncer/bouncer/http/Polling" "processors" "I" (.int pr)) (F_waitedBriefly : Fld Z h0 a1 "com/example/bouncer/bouncer/http/Polling" "waitedBriefly" "Z" (.int wb)) (F_gaveUp : Fld Z h0 a1 "com/example/bouncer/bouncer/http/Polling" "gaveUp" "Z" (.int gu)) (F_backoff : Fld Z h0 a1 "com/example/bouncer/bouncer/http/Polling" "backoff" "I" (.int bo)) (F_unpolled : Fld Z h0 a1 "com/example/bouncer/bouncer/http/Polling" "unpolled" "I" (.int un)) (g_a1 : n0 ≤ a1) (h_pr : pr = pr') (h_wb : wb = wb') (h_gu : (1 : Int32) = gu') (h_bo : bo = bo') (h_un : un = un') :
    MetFree l (⟨"com/example/bouncer/bouncer/http/Polling", "gaveUp", "()V"⟩ : MethodName) (head1 (Jvm.Cond.code (⟨"com/example/bouncer/bouncer/http/Polling", "gaveUp", "()V"⟩ : MethodName) prog_44_method_4_code 1 none :: ws) ({ frames := 0, cells := 0, slots := 0, locals := 0 } : Room)) (fun a U => a = #[(.ref a1)] ∧ Z.Warmed39 U.vm ∧ U.heap = h0) (fun _ _ _ _ _ => True) (fun _ U o U' => ∃ v L, o = .returned v ∧ Q_rmG Z a1 pr wb gu bo un pr' wb' gu' bo' un' h0 n0 v U'.heap L ∧ FrameEnd U o U' L ({ frames := 0, cells := 0, slots := 0, locals := 0 } : Room).cells ({ frames := 0, cells := 0, slots := 0, locals := 0 } : Room).slots) := by
  refine MetFree.of_bodySF (plainFor_of_name pn_rmG) hisR ?_
  intro p e s m args below meth c s₁ Bd hml0 hP hK
  obtain ⟨rfl, hZ, hh⟩ := hP
  have hx := Bd.exec
  have hby := Bd.bytes
  have hml : c.maxLocals = 1 := hml0
  have hown : s.vm.findClass "com/example/bouncer/bouncer/http/Polling" = some m.cls := findClass_of_methodNamed Bd.named
  have hnm := (name_of_methodNamed Bd.named Bd.method).1
  have X0 : Stand p l e ({ frames := 0, cells := 0, slots := 0, locals := 0 } : Room) s m #[(.ref a1)] below meth c s₁ [] 0 0 := Stand.of_body Bd
  have e0 : s₁.heap = h0 := by rw [← hh, Bd.state]; rfl
  have N0 := Fr.nil n0
  have pre0 : ∀ t, Steps p.tables e below (s₁.setTop (mkF m 0 #[.val (.ref a1)] [])) t → Steps p.tables e below (s₁.setTop (entryFrame m #[(.ref a1)] 1)) t := fun t k => castTop (ef_rmG m a1) k
  obtain ⟨T1, h1, X1, e1, W1, st1⟩ := putFN X0 hx hZ hown (hw _ (List.mem_of_getElem? (i := 16) rfl)) Via.refl e0 F_gaveUp E_a1 (Or.inl (hw _ (List.mem_of_getElem? (i := 17) rfl))) (hw _ (List.mem_of_getElem? (i := 1) rfl)) (ty := .boolean) (v' := (.int (1 : Int32))) (by decide) rfl (fits_nar_bool (1 : Int32)) (g := (mkF m 2 #[.val (.ref a1)] [(.int (1 : Int32)), (.ref a1)])) rfl rfl (hb hby d3_2)
  have Fw1 : Fld Z h1 a1 "com/example/bouncer/bouncer/http/Polling" "gaveUp" "Z" (.int (1 : Int32)) := F_gaveUp.same W1
  have K1 : Keep h0 h1 [a1] := ((Keep.refl h0 [a1])).wr W1 (Or.inl (List.mem_of_getElem? (i := 0) rfl))
  have N1 := Fr.snoc X1 N0 g_a1
  have f2 := (Exa.wr W1 E_a1)
  have f3 := (Fld.other W1 F_processors (Or.inr (slot_ne (Or.inr (hw _ (List.mem_of_getElem? (i := 10) rfl))) (Or.inl (hw _ (List.mem_of_getElem? (i := 17) rfl))) (by decide) (t := .int) (t' := .boolean) (by decide) (by decide))))
  have f4 := (Fld.other W1 F_waitedBriefly (Or.inr (slot_ne (Or.inl (hw _ (List.mem_of_getElem? (i := 26) rfl))) (Or.inl (hw _ (List.mem_of_getElem? (i := 17) rfl))) (by decide) (t := .boolean) (t' := .boolean) (by decide) (by decide))))
  have f5 := (Fld.other W1 F_backoff (Or.inr (slot_ne (Or.inl (hw _ (List.mem_of_getElem? (i := 29) rfl))) (Or.inl (hw _ (List.mem_of_getElem? (i := 17) rfl))) (by decide) (t := .int) (t' := .boolean) (by decide) (by decide))))
  have f6 := (Fld.other W1 F_unpolled (Or.inr (slot_ne (Or.inl (hw _ (List.mem_of_getElem? (i := 38) rfl))) (Or.inl (hw _ (List.mem_of_getElem? (i := 17) rfl))) (by decide) (t := .int) (t' := .boolean) (by decide) (by decide))))
  obtain ⟨fs, hr, hrun, hended, hW, hsame⟩ := X1.leave (v := none) (fun _ => rfl)
  refine ⟨_, _, pre0 _ ?_, hrun, hended, _, _, rfl, ?_, ⟨_, rfl⟩, hW, hsame.mono (by decide) (by decide)⟩
  · show Steps p.tables e below (s₁.setTop (mkF m 0 #[.val (.ref a1)] [])) _
    refine XS.aloadN X0.here hx rfl (hb hby d3_0) rfl rfl ?_
    show Steps p.tables e below (s₁.setTop (mkF m 1 #[.val (.ref a1)] [(.ref a1)])) _
    refine XS.iconst X0.here hx rfl (hb hby d3_1) ?_
    show Steps p.tables e below (s₁.setTop (mkF m 2 #[.val (.ref a1)] [(.int (1 : Int32)), (.ref a1)])) _
    refine st1 _ ?_
    show Steps p.tables e below (T1.setTop (mkF m 5 #[.val (.ref a1)] [])) _
    exact X1.returnOut hx Bd.returns (hb hby d3_5) hr
  · show Q_rmG Z a1 pr wb gu bo un pr' wb' gu' bo' un' h0 n0 _ T1.heap _
    rw [e1]
    exact ⟨rfl, N1, K1, f2, (by rw [← h_pr]; exact f3), (by rw [← h_wb]; exact f4), (by rw [← h_gu]; exact Fw1), (by rw [← h_bo]; exact f5), (by rw [← h_un]; exact f6)⟩
theorem d8_0 : decode prog_44_method_3_code 0 = .ok (.iload_n 1, 1) := by decide +kernel
theorem d8_1 : decode prog_44_method_3_code 1 = .ok (.ifCond .ne 13, 3) := by decide +kernel
theorem d8_4 : decode prog_44_method_3_code 4 = .ok (.aload_n 0, 1) := by decide +kernel
theorem d8_5 : decode prog_44_method_3_code 5 = .ok (.dup, 1) := by decide +kernel
theorem d8_6 : decode prog_44_method_3_code 6 = .ok (.getfield 20, 3) := by decide +kernel
theorem d8_9 : decode prog_44_method_3_code 9 = .ok (.iconst 2, 1) := by decide +kernel
theorem d8_10 : decode prog_44_method_3_code 10 = .ok (.idiv, 1) := by decide +kernel
theorem d8_11 : decode prog_44_method_3_code 11 = .ok (.putfield 20, 3) := by decide +kernel
theorem d8_14 : decode prog_44_method_3_code 14 = .ok (.return_, 1) := by decide +kernel
theorem pn_rmF : plainName "com/example/bouncer/bouncer/http/Polling" = true := by first | (simp [plainName, overriddenIn]; done) | decide +kernel
theorem ef_rmF (m : MethodId) (a1 : Addr) (p2 : Int32) : entryFrame m #[(.ref a1), (.int p2)] 2 = mkF m 0 #[.val (.ref a1), .val (.int p2)] [] := by first | (simp [entryFrame, mkF, argsToLocals, Value.category]; done) | rfl
def Q_rmF (Z : State) (a1 : Addr) (p2 : Int32) (pr : Int32) (wb : Int32) (gu : Int32) (bo : Int32) (un : Int32) (pr' : Int32) (wb' : Int32) (gu' : Int32) (bo' : Int32) (un' : Int32) (h0 : Heap) (n0 : Nat) (v : Option Value) (h : Heap) (L : List Loc) : Prop := v = none ∧ Fr n0 L ∧ Keep h0 h [a1] ∧ Exa Z h a1 "com/example/bouncer/bouncer/http/Polling" ∧ Fld Z h a1 "com/example/bouncer/bouncer/http/Polling" "processors" "I" (.int pr') ∧ Fld Z h a1 "com/example/bouncer/bouncer/http/Polling" "waitedBriefly" "Z" (.int wb') ∧ Fld Z h a1 "com/example/bouncer/bouncer/http/Polling" "gaveUp" "Z" (.int gu') ∧ Fld Z h a1 "com/example/bouncer/bouncer/http/Polling" "backoff" "I" (.int bo') ∧ Fld Z h a1 "com/example/bouncer/bouncer/http/Polling" "unpolled" "I" (.int un')
set_option maxRecDepth 65536 in
set_option maxHeartbeats 40000000 in
theorem rmF (l : Launch) (Z : State) (a0 : Array Value) (hw : ∀ d ∈ tables_1, d.before a0 Z = true) (ws : List Jvm.Cond) (a1 : Addr) (p2 : Int32) (pr : Int32) (wb : Int32) (gu : Int32) (bo : Int32) (un : Int32) (pr' : Int32) (wb' : Int32) (gu' : Int32) (bo' : Int32) (un' : Int32) (h0 : Heap) (n0 : Nat) (Z0 : n0 ≤ h0.size) (E_a1 : Exa Z h0 a1 "com/example/bouncer/bouncer/http/Polling") (F_processors : Fld Z h0 a1 "com/example/bouncer/bouncer/http/Polling" "processors" "I" (.int pr)) (F_waitedBriefly : Fld Z h0 a1 "com/example/bouncer/bouncer/http/Polling" "waitedBriefly" "Z" (.int wb)) (F_gaveUp : Fld Z h0 a1 "com/example/bouncer/bouncer/http/Polling" "gaveUp" "Z" (.int gu)) (F_backoff : Fld Z h0 a1 "com/example/bouncer/bouncer/http/Polling" "backoff" "I" (.int bo)) (F_unpolled : Fld Z h0 a1 "com/example/bouncer/bouncer/http/Polling" "unpolled" "I" (.int un)) (g_a1 : n0 ≤ a1) (h_pr : pr = pr') (h_wb : wb = wb') (h_gu : gu = gu') (h_bo : foF p2 bo = bo') (h_un : un = un') :
    MetFree l (⟨"com/example/bouncer/bouncer/http/Polling", "found", "(Z)V"⟩ : MethodName) (head1 (Jvm.Cond.code (⟨"com/example/bouncer/bouncer/http/Polling", "found", "(Z)V"⟩ : MethodName) prog_44_method_3_code 2 none :: ws) ({ frames := 0, cells := 0, slots := 0, locals := 0 } : Room)) (fun a U => a = #[(.ref a1), (.int p2)] ∧ Z.Warmed39 U.vm ∧ U.heap = h0) (fun _ _ _ _ _ => True) (fun _ U o U' => ∃ v L, o = .returned v ∧ Q_rmF Z a1 p2 pr wb gu bo un pr' wb' gu' bo' un' h0 n0 v U'.heap L ∧ FrameEnd U o U' L ({ frames := 0, cells := 0, slots := 0, locals := 0 } : Room).cells ({ frames := 0, cells := 0, slots := 0, locals := 0 } : Room).slots) := by
  refine MetFree.of_bodySF (plainFor_of_name pn_rmF) hisR ?_
  intro p e s m args below meth c s₁ Bd hml0 hP hK
  obtain ⟨rfl, hZ, hh⟩ := hP
  have hx := Bd.exec
  have hby := Bd.bytes
  have hml : c.maxLocals = 2 := hml0
  have hown : s.vm.findClass "com/example/bouncer/bouncer/http/Polling" = some m.cls := findClass_of_methodNamed Bd.named
  have hnm := (name_of_methodNamed Bd.named Bd.method).1
  have X0 : Stand p l e ({ frames := 0, cells := 0, slots := 0, locals := 0 } : Room) s m #[(.ref a1), (.int p2)] below meth c s₁ [] 0 0 := Stand.of_body Bd
  have e0 : s₁.heap = h0 := by rw [← hh, Bd.state]; rfl
  have N0 := Fr.nil n0
  have pre0 : ∀ t, Steps p.tables e below (s₁.setTop (mkF m 0 #[.val (.ref a1), .val (.int p2)] [])) t → Steps p.tables e below (s₁.setTop (entryFrame m #[(.ref a1), (.int p2)] 2)) t := fun t k => castTop (ef_rmF m a1 p2) k
  have pre1 : ∀ t, Steps p.tables e below (s₁.setTop (mkF m 1 #[.val (.ref a1), .val (.int p2)] [(.int p2)])) t → Steps p.tables e below (s₁.setTop (entryFrame m #[(.ref a1), (.int p2)] 2)) t := fun t k => pre0 t (by
      show Steps p.tables e below (s₁.setTop (mkF m 0 #[.val (.ref a1), .val (.int p2)] [])) _
      refine XS.iloadN X0.here hx rfl (hb hby d8_0) rfl ?_
      exact k)
  by_cases hc2 : p2 = (0 : Int32)
  · obtain ⟨T3, X3, e3, st3⟩ := getF X0 hx hZ hown (host := "") (Or.inl (hw _ (List.mem_of_getElem? (i := 28) rfl))) Via.refl e0 F_backoff (g := (mkF m 6 #[.val (.ref a1), .val (.int p2)] [(.ref a1), (.ref a1)])) rfl rfl (hb hby d8_6)
    obtain ⟨T4, h4, X4, e4, W4, st4⟩ := putF X3 hx hZ hown (host := "") (Or.inl (hw _ (List.mem_of_getElem? (i := 28) rfl))) Via.refl e3 F_backoff E_a1 (Or.inl (hw _ (List.mem_of_getElem? (i := 29) rfl))) (hw _ (List.mem_of_getElem? (i := 1) rfl)) (ty := .int) (by decide) rfl rfl (g := (mkF m 11 #[.val (.ref a1), .val (.int p2)] [(.int (bo / (2 : Int32))), (.ref a1)])) rfl rfl (hb hby d8_11)
    have Fw4 : Fld Z h4 a1 "com/example/bouncer/bouncer/http/Polling" "backoff" "I" (.int (bo / (2 : Int32))) := F_backoff.same W4
    have K4 : Keep h0 h4 [a1] := ((Keep.refl h0 [a1])).wr W4 (Or.inl (List.mem_of_getElem? (i := 0) rfl))
    have N4 := Fr.snoc X4 N0 g_a1
    have f5 := (Exa.wr W4 E_a1)
    have f6 := (Fld.other W4 F_processors (Or.inr (slot_ne (Or.inr (hw _ (List.mem_of_getElem? (i := 10) rfl))) (Or.inl (hw _ (List.mem_of_getElem? (i := 29) rfl))) (by decide) (t := .int) (t' := .int) (by decide) (by decide))))
    have f7 := (Fld.other W4 F_waitedBriefly (Or.inr (slot_ne (Or.inl (hw _ (List.mem_of_getElem? (i := 26) rfl))) (Or.inl (hw _ (List.mem_of_getElem? (i := 29) rfl))) (by decide) (t := .boolean) (t' := .int) (by decide) (by decide))))
    have f8 := (Fld.other W4 F_gaveUp (Or.inr (slot_ne (Or.inl (hw _ (List.mem_of_getElem? (i := 17) rfl))) (Or.inl (hw _ (List.mem_of_getElem? (i := 29) rfl))) (by decide) (t := .boolean) (t' := .int) (by decide) (by decide))))
    have f9 := (Fld.other W4 F_unpolled (Or.inr (slot_ne (Or.inl (hw _ (List.mem_of_getElem? (i := 38) rfl))) (Or.inl (hw _ (List.mem_of_getElem? (i := 29) rfl))) (by decide) (t := .int) (t' := .int) (by decide) (by decide))))
    obtain ⟨fs, hr, hrun, hended, hW, hsame⟩ := X4.leave (v := none) (fun _ => rfl)
    refine ⟨_, _, pre1 _ ?_, hrun, hended, _, _, rfl, ?_, ⟨_, rfl⟩, hW, hsame.mono (by decide) (by decide)⟩
    · show Steps p.tables e below (s₁.setTop (mkF m 1 #[.val (.ref a1), .val (.int p2)] [(.int p2)])) _
      refine XS.ifNo X0.here hx rfl (hb hby d8_1) rfl ((if0 _ _).trans (teq hc2).2) ?_
      show Steps p.tables e below (s₁.setTop (mkF m 4 #[.val (.ref a1), .val (.int p2)] [])) _
      refine XS.aloadN X0.here hx rfl (hb hby d8_4) rfl rfl ?_
      show Steps p.tables e below (s₁.setTop (mkF m 5 #[.val (.ref a1), .val (.int p2)] [(.ref a1)])) _
      refine XS.dup X0.here hx rfl (hb hby d8_5) rfl rfl ?_
      show Steps p.tables e below (s₁.setTop (mkF m 6 #[.val (.ref a1), .val (.int p2)] [(.ref a1), (.ref a1)])) _
      refine st3 _ ?_
      show Steps p.tables e below (T3.setTop (mkF m 9 #[.val (.ref a1), .val (.int p2)] [(.int bo), (.ref a1)])) _
      refine XS.iconst X3.here hx rfl (hb hby d8_9) ?_
      show Steps p.tables e below (T3.setTop (mkF m 10 #[.val (.ref a1), .val (.int p2)] [(.int (2 : Int32)), (.int bo), (.ref a1)])) _
      refine XS.idiv X3.here hx rfl (hb hby d8_10) rfl (by decide) ?_
      show Steps p.tables e below (T3.setTop (mkF m 11 #[.val (.ref a1), .val (.int p2)] [(.int (bo / (2 : Int32))), (.ref a1)])) _
      refine st4 _ ?_
      show Steps p.tables e below (T4.setTop (mkF m 14 #[.val (.ref a1), .val (.int p2)] [])) _
      exact X4.returnOut hx Bd.returns (hb hby d8_14) hr
    · show Q_rmF Z a1 p2 pr wb gu bo un pr' wb' gu' bo' un' h0 n0 _ T4.heap _
      rw [e4]
      exact ⟨rfl, N4, K4, f5, (by rw [← h_pr]; exact f6), (by rw [← h_wb]; exact f7), (by rw [← h_gu]; exact f8), (by rw [← h_bo]; simp only [foF, if_pos hc2]; exact Fw4), (by rw [← h_un]; exact f9)⟩
  · obtain ⟨fs, hr, hrun, hended, hW, hsame⟩ := X0.leave (v := none) (fun _ => rfl)
    refine ⟨_, _, pre1 _ ?_, hrun, hended, _, _, rfl, ?_, ⟨_, rfl⟩, hW, hsame.mono (by decide) (by decide)⟩
    · show Steps p.tables e below (s₁.setTop (mkF m 1 #[.val (.ref a1), .val (.int p2)] [(.int p2)])) _
      refine XS.ifYes X0.here hx rfl (pc0 := 1) (pc' := 14) rfl (hb hby d8_1) rfl ((if0 _ _).trans (feq hc2).2) (by decide) (by decide) ?_
      show Steps p.tables e below (s₁.setTop (mkF m 14 #[.val (.ref a1), .val (.int p2)] [])) _
      exact X0.returnOut hx Bd.returns (hb hby d8_14) hr
    · show Q_rmF Z a1 p2 pr wb gu bo un pr' wb' gu' bo' un' h0 n0 _ s₁.heap _
      rw [e0]
      exact ⟨rfl, N0, Keep.refl _ _, E_a1, (by rw [← h_pr]; exact F_processors), (by rw [← h_wb]; exact F_waitedBriefly), (by rw [← h_gu]; exact F_gaveUp), (by rw [← h_bo]; simp only [foF, if_neg hc2]; exact F_backoff), (by rw [← h_un]; exact F_unpolled)⟩
theorem d4_0 : decode prog_44_method_5_code 0 = .ok (.aload_n 0, 1) := by decide +kernel
theorem d4_1 : decode prog_44_method_5_code 1 = .ok (.lload_n 1, 1) := by decide +kernel
theorem d4_2 : decode prog_44_method_5_code 2 = .ok (.getstatic 26, 3) := by decide +kernel
theorem d4_5 : decode prog_44_method_5_code 5 = .ok (.lcmp, 1) := by decide +kernel
theorem d4_6 : decode prog_44_method_5_code 6 = .ok (.ifCond .ge 7, 3) := by decide +kernel
theorem d4_9 : decode prog_44_method_5_code 9 = .ok (.iconst 1, 1) := by decide +kernel
theorem d4_10 : decode prog_44_method_5_code 10 = .ok (.goto 4, 3) := by decide +kernel
theorem d4_13 : decode prog_44_method_5_code 13 = .ok (.iconst 0, 1) := by decide +kernel
theorem d4_14 : decode prog_44_method_5_code 14 = .ok (.putfield 13, 3) := by decide +kernel
theorem d4_17 : decode prog_44_method_5_code 17 = .ok (.aload_n 0, 1) := by decide +kernel
theorem d4_18 : decode prog_44_method_5_code 18 = .ok (.getfield 23, 3) := by decide +kernel
theorem d4_21 : decode prog_44_method_5_code 21 = .ok (.ifCond .eq 43, 3) := by decide +kernel
theorem d4_24 : decode prog_44_method_5_code 24 = .ok (.lload_n 1, 1) := by decide +kernel
theorem d4_25 : decode prog_44_method_5_code 25 = .ok (.ldc2_w 30, 3) := by decide +kernel
theorem d4_28 : decode prog_44_method_5_code 28 = .ok (.getstatic 26, 3) := by decide +kernel
theorem d4_31 : decode prog_44_method_5_code 31 = .ok (.lmul, 1) := by decide +kernel
theorem d4_32 : decode prog_44_method_5_code 32 = .ok (.lcmp, 1) := by decide +kernel
theorem d4_33 : decode prog_44_method_5_code 33 = .ok (.ifCond .ge 31, 3) := by decide +kernel
theorem d4_36 : decode prog_44_method_5_code 36 = .ok (.aload_n 0, 1) := by decide +kernel
theorem d4_37 : decode prog_44_method_5_code 37 = .ok (.sipush 256, 3) := by decide +kernel
theorem d4_40 : decode prog_44_method_5_code 40 = .ok (.iconst 1, 1) := by decide +kernel
theorem d4_41 : decode prog_44_method_5_code 41 = .ok (.iconst 2, 1) := by decide +kernel
theorem d4_42 : decode prog_44_method_5_code 42 = .ok (.aload_n 0, 1) := by decide +kernel
theorem d4_43 : decode prog_44_method_5_code 43 = .ok (.getfield 20, 3) := by decide +kernel
theorem d4_46 : decode prog_44_method_5_code 46 = .ok (.imul, 1) := by decide +kernel
theorem d4_47 : decode prog_44_method_5_code 47 = .ok (.invokestatic 32, 3) := by decide +kernel
theorem d4_50 : decode prog_44_method_5_code 50 = .ok (.invokestatic 38, 3) := by decide +kernel
theorem d4_53 : decode prog_44_method_5_code 53 = .ok (.putfield 20, 3) := by decide +kernel
theorem d4_56 : decode prog_44_method_5_code 56 = .ok (.aload_n 0, 1) := by decide +kernel
theorem d4_57 : decode prog_44_method_5_code 57 = .ok (.aload_n 0, 1) := by decide +kernel
theorem d4_58 : decode prog_44_method_5_code 58 = .ok (.getfield 20, 3) := by decide +kernel
theorem d4_61 : decode prog_44_method_5_code 61 = .ok (.putfield 17, 3) := by decide +kernel
theorem d4_64 : decode prog_44_method_5_code 64 = .ok (.aload_n 0, 1) := by decide +kernel
theorem d4_65 : decode prog_44_method_5_code 65 = .ok (.iconst 0, 1) := by decide +kernel
theorem d4_66 : decode prog_44_method_5_code 66 = .ok (.putfield 23, 3) := by decide +kernel
theorem d4_69 : decode prog_44_method_5_code 69 = .ok (.return_, 1) := by decide +kernel
theorem pn_rmW : plainName "com/example/bouncer/bouncer/http/Polling" = true := by first | (simp [plainName, overriddenIn]; done) | decide +kernel
theorem pd_rmW_0 : parseMethodDescriptor "(II)I" = some ⟨[.int, .int], some .int⟩ := by decide +kernel
theorem ef_rmW (m : MethodId) (a1 : Addr) (q2 : Int64) : entryFrame m #[(.ref a1), (.long q2)] 3 = mkF m 0 #[.val (.ref a1), .val (.long q2), .second] [] := by first | (simp [entryFrame, mkF, argsToLocals, Value.category]; done) | rfl
def Q_rmW (Z : State) (a1 : Addr) (q2 : Int64) (pr : Int32) (wb : Int32) (gu : Int32) (bo : Int32) (un : Int32) (pr' : Int32) (wb' : Int32) (gu' : Int32) (bo' : Int32) (un' : Int32) (h0 : Heap) (n0 : Nat) (v : Option Value) (h : Heap) (L : List Loc) : Prop := v = none ∧ Fr n0 L ∧ Keep h0 h [a1] ∧ Exa Z h a1 "com/example/bouncer/bouncer/http/Polling" ∧ Fld Z h a1 "com/example/bouncer/bouncer/http/Polling" "processors" "I" (.int pr') ∧ Fld Z h a1 "com/example/bouncer/bouncer/http/Polling" "waitedBriefly" "Z" (.int wb') ∧ Fld Z h a1 "com/example/bouncer/bouncer/http/Polling" "gaveUp" "Z" (.int gu') ∧ Fld Z h a1 "com/example/bouncer/bouncer/http/Polling" "backoff" "I" (.int bo') ∧ Fld Z h a1 "com/example/bouncer/bouncer/http/Polling" "unpolled" "I" (.int un')
set_option maxRecDepth 65536 in
set_option maxHeartbeats 40000000 in
theorem rmW (l : Launch) (Z : State) (a0 : Array Value) (hw : ∀ d ∈ tables_1, d.before a0 Z = true) (ws : List Jvm.Cond) (a1 : Addr) (q2 : Int64) (pr : Int32) (wb : Int32) (gu : Int32) (bo : Int32) (un : Int32) (pr' : Int32) (wb' : Int32) (gu' : Int32) (bo' : Int32) (un' : Int32) (h0 : Heap) (n0 : Nat) (Z0 : n0 ≤ h0.size) (E_a1 : Exa Z h0 a1 "com/example/bouncer/bouncer/http/Polling") (F_processors : Fld Z h0 a1 "com/example/bouncer/bouncer/http/Polling" "processors" "I" (.int pr)) (F_waitedBriefly : Fld Z h0 a1 "com/example/bouncer/bouncer/http/Polling" "waitedBriefly" "Z" (.int wb)) (F_gaveUp : Fld Z h0 a1 "com/example/bouncer/bouncer/http/Polling" "gaveUp" "Z" (.int gu)) (F_backoff : Fld Z h0 a1 "com/example/bouncer/bouncer/http/Polling" "backoff" "I" (.int bo)) (F_unpolled : Fld Z h0 a1 "com/example/bouncer/bouncer/http/Polling" "unpolled" "I" (.int un)) (g_a1 : n0 ≤ a1) (S_P : Sta Z h0 "com/example/bouncer/bouncer/http/Polling" "POLL_NANOS" "J" (.long (40000 : Int64))) (h_pr : pr = pr') (h_wb : wbF q2 = wb') (h_gu : (0 : Int32) = gu') (h_bo : boF gu bo q2 = bo') (h_un : unF gu bo un q2 = un') :
    MetFree l (⟨"com/example/bouncer/bouncer/http/Polling", "waited", "(J)V"⟩ : MethodName) (head1 (Jvm.Cond.code (⟨"com/example/bouncer/bouncer/http/Polling", "waited", "(J)V"⟩ : MethodName) prog_44_method_5_code 3 none :: ws) ({ frames := 1, cells := 0, slots := 0, locals := 15 } : Room)) (fun a U => a = #[(.ref a1), (.long q2)] ∧ Z.Warmed39 U.vm ∧ U.heap = h0) (fun _ _ _ _ _ => True) (fun _ U o U' => ∃ v L, o = .returned v ∧ Q_rmW Z a1 q2 pr wb gu bo un pr' wb' gu' bo' un' h0 n0 v U'.heap L ∧ FrameEnd U o U' L ({ frames := 1, cells := 0, slots := 0, locals := 15 } : Room).cells ({ frames := 1, cells := 0, slots := 0, locals := 15 } : Room).slots) := by
  refine MetFree.of_bodySF (plainFor_of_name pn_rmW) hisR ?_
  intro p e s m args below meth c s₁ Bd hml0 hP hK
  obtain ⟨rfl, hZ, hh⟩ := hP
  have hx := Bd.exec
  have hby := Bd.bytes
  have hml : c.maxLocals = 3 := hml0
  have hown : s.vm.findClass "com/example/bouncer/bouncer/http/Polling" = some m.cls := findClass_of_methodNamed Bd.named
  have hnm := (name_of_methodNamed Bd.named Bd.method).1
  have X0 : Stand p l e ({ frames := 1, cells := 0, slots := 0, locals := 15 } : Room) s m #[(.ref a1), (.long q2)] below meth c s₁ [] 0 0 := Stand.of_body Bd
  have e0 : s₁.heap = h0 := by rw [← hh, Bd.state]; rfl
  have N0 := Fr.nil n0
  have pre0 : ∀ t, Steps p.tables e below (s₁.setTop (mkF m 0 #[.val (.ref a1), .val (.long q2), .second] [])) t → Steps p.tables e below (s₁.setTop (entryFrame m #[(.ref a1), (.long q2)] 3)) t := fun t k => castTop (ef_rmW m a1 q2) k
  obtain ⟨T1, X1, e1, st1⟩ := getS2 X0 hx hZ hown (host := "") (Or.inl (hw _ (List.mem_of_getElem? (i := 23) rfl))) Via.refl e0 S_P (g := (mkF m 2 #[.val (.ref a1), .val (.long q2), .second] [(.long q2), (.ref a1)])) rfl (hb hby d4_2)
  have pre2 : ∀ t, Steps p.tables e below (T1.setTop (mkF m 6 #[.val (.ref a1), .val (.long q2), .second] [(.int (lcmpW q2 (40000 : Int64))), (.ref a1)])) t → Steps p.tables e below (s₁.setTop (entryFrame m #[(.ref a1), (.long q2)] 3)) t := fun t k => pre0 t (by
      show Steps p.tables e below (s₁.setTop (mkF m 0 #[.val (.ref a1), .val (.long q2), .second] [])) _
      refine XS.aloadN X0.here hx rfl (hb hby d4_0) rfl rfl ?_
      show Steps p.tables e below (s₁.setTop (mkF m 1 #[.val (.ref a1), .val (.long q2), .second] [(.ref a1)])) _
      refine XS.lloadN X0.here hx rfl (hb hby d4_1) rfl ?_
      show Steps p.tables e below (s₁.setTop (mkF m 2 #[.val (.ref a1), .val (.long q2), .second] [(.long q2), (.ref a1)])) _
      refine st1 _ ?_
      show Steps p.tables e below (T1.setTop (mkF m 5 #[.val (.ref a1), .val (.long q2), .second] [(.long (40000 : Int64)), (.long q2), (.ref a1)])) _
      refine XS.lcmp X1.here hx rfl (hb hby d4_5) rfl ?_
      exact k)
  by_cases hc3 : (lcmpW q2 (40000 : Int64)) < (0 : Int32)
  · obtain ⟨T4, h4, X4, e4, W4, st4⟩ := putFN X1 hx hZ hown (hw _ (List.mem_of_getElem? (i := 25) rfl)) Via.refl e1 F_waitedBriefly E_a1 (Or.inl (hw _ (List.mem_of_getElem? (i := 26) rfl))) (hw _ (List.mem_of_getElem? (i := 1) rfl)) (ty := .boolean) (v' := (.int (1 : Int32))) (by decide) rfl (fits_nar_bool (1 : Int32)) (g := (mkF m 14 #[.val (.ref a1), .val (.long q2), .second] [(.int (1 : Int32)), (.ref a1)])) rfl rfl (hb hby d4_14)
    have Fw4 : Fld Z h4 a1 "com/example/bouncer/bouncer/http/Polling" "waitedBriefly" "Z" (.int (1 : Int32)) := F_waitedBriefly.same W4
    have K4 : Keep h0 h4 [a1] := ((Keep.refl h0 [a1])).wr W4 (Or.inl (List.mem_of_getElem? (i := 0) rfl))
    have N4 := Fr.snoc X4 N0 g_a1
    have f5 := (Fld.other W4 F_gaveUp (Or.inr (slot_ne (Or.inl (hw _ (List.mem_of_getElem? (i := 17) rfl))) (Or.inl (hw _ (List.mem_of_getElem? (i := 26) rfl))) (by decide) (t := .boolean) (t' := .boolean) (by decide) (by decide))))
    obtain ⟨T6, X6, e6, st6⟩ := getF X4 hx hZ hown (host := "") (Or.inl (hw _ (List.mem_of_getElem? (i := 16) rfl))) Via.refl e4 f5 (g := (mkF m 18 #[.val (.ref a1), .val (.long q2), .second] [(.ref a1)])) rfl rfl (hb hby d4_18)
    have pre7 : ∀ t, Steps p.tables e below (T6.setTop (mkF m 21 #[.val (.ref a1), .val (.long q2), .second] [(.int gu)])) t → Steps p.tables e below (s₁.setTop (entryFrame m #[(.ref a1), (.long q2)] 3)) t := fun t k => pre2 t (by
        show Steps p.tables e below (T1.setTop (mkF m 6 #[.val (.ref a1), .val (.long q2), .second] [(.int (lcmpW q2 (40000 : Int64))), (.ref a1)])) _
        refine XS.ifNo X1.here hx rfl (hb hby d4_6) rfl ((if0 _ _).trans (tlt hc3).2.1) ?_
        show Steps p.tables e below (T1.setTop (mkF m 9 #[.val (.ref a1), .val (.long q2), .second] [(.ref a1)])) _
        refine XS.iconst X1.here hx rfl (hb hby d4_9) ?_
        show Steps p.tables e below (T1.setTop (mkF m 10 #[.val (.ref a1), .val (.long q2), .second] [(.int (1 : Int32)), (.ref a1)])) _
        refine XS.goto X1.here hx rfl (pc0 := 10) (pc' := 14) rfl (hb hby d4_10) (by decide) (by decide) ?_
        show Steps p.tables e below (T1.setTop (mkF m 14 #[.val (.ref a1), .val (.long q2), .second] [(.int (1 : Int32)), (.ref a1)])) _
        refine st4 _ ?_
        show Steps p.tables e below (T4.setTop (mkF m 17 #[.val (.ref a1), .val (.long q2), .second] [])) _
        refine XS.aloadN X4.here hx rfl (hb hby d4_17) rfl rfl ?_
        show Steps p.tables e below (T4.setTop (mkF m 18 #[.val (.ref a1), .val (.long q2), .second] [(.ref a1)])) _
        refine st6 _ ?_
        exact k)
    by_cases hc8 : gu = (0 : Int32)
    · have f10 := (Exa.wr W4 E_a1)
      obtain ⟨T9, h9, X9, e9, W9, st9⟩ := putFN X6 hx hZ hown (hw _ (List.mem_of_getElem? (i := 16) rfl)) Via.refl e6 f5 f10 (Or.inl (hw _ (List.mem_of_getElem? (i := 17) rfl))) (hw _ (List.mem_of_getElem? (i := 1) rfl)) (ty := .boolean) (v' := (.int (0 : Int32))) (by decide) rfl (fits_nar_bool (0 : Int32)) (g := (mkF m 66 #[.val (.ref a1), .val (.long q2), .second] [(.int (0 : Int32)), (.ref a1)])) rfl rfl (hb hby d4_66)
      have Fw9 : Fld Z h9 a1 "com/example/bouncer/bouncer/http/Polling" "gaveUp" "Z" (.int (0 : Int32)) := f5.same W9
      have K9 : Keep h0 h9 [a1] := (K4).wr W9 (Or.inl (List.mem_of_getElem? (i := 0) rfl))
      have N9 := Fr.snoc X9 N4 g_a1
      have f11 := (Exa.wr W9 f10)
      have f12 := (Fld.other W9 (Fld.other W4 F_processors (Or.inr (slot_ne (Or.inr (hw _ (List.mem_of_getElem? (i := 10) rfl))) (Or.inl (hw _ (List.mem_of_getElem? (i := 26) rfl))) (by decide) (t := .int) (t' := .boolean) (by decide) (by decide)))) (Or.inr (slot_ne (Or.inr (hw _ (List.mem_of_getElem? (i := 10) rfl))) (Or.inl (hw _ (List.mem_of_getElem? (i := 17) rfl))) (by decide) (t := .int) (t' := .boolean) (by decide) (by decide))))
      have f13 := (Fld.other W9 Fw4 (Or.inr (slot_ne (Or.inl (hw _ (List.mem_of_getElem? (i := 26) rfl))) (Or.inl (hw _ (List.mem_of_getElem? (i := 17) rfl))) (by decide) (t := .boolean) (t' := .boolean) (by decide) (by decide))))
      have f14 := (Fld.other W9 (Fld.other W4 F_backoff (Or.inr (slot_ne (Or.inl (hw _ (List.mem_of_getElem? (i := 29) rfl))) (Or.inl (hw _ (List.mem_of_getElem? (i := 26) rfl))) (by decide) (t := .int) (t' := .boolean) (by decide) (by decide)))) (Or.inr (slot_ne (Or.inl (hw _ (List.mem_of_getElem? (i := 29) rfl))) (Or.inl (hw _ (List.mem_of_getElem? (i := 17) rfl))) (by decide) (t := .int) (t' := .boolean) (by decide) (by decide))))
      have f15 := (Fld.other W9 (Fld.other W4 F_unpolled (Or.inr (slot_ne (Or.inl (hw _ (List.mem_of_getElem? (i := 38) rfl))) (Or.inl (hw _ (List.mem_of_getElem? (i := 26) rfl))) (by decide) (t := .int) (t' := .boolean) (by decide) (by decide)))) (Or.inr (slot_ne (Or.inl (hw _ (List.mem_of_getElem? (i := 38) rfl))) (Or.inl (hw _ (List.mem_of_getElem? (i := 17) rfl))) (by decide) (t := .int) (t' := .boolean) (by decide) (by decide))))
      obtain ⟨fs, hr, hrun, hended, hW, hsame⟩ := X9.leave (v := none) (fun _ => rfl)
      refine ⟨_, _, pre7 _ ?_, hrun, hended, _, _, rfl, ?_, ⟨_, rfl⟩, hW, hsame.mono (by decide) (by decide)⟩
      · show Steps p.tables e below (T6.setTop (mkF m 21 #[.val (.ref a1), .val (.long q2), .second] [(.int gu)])) _
        refine XS.ifYes X6.here hx rfl (pc0 := 21) (pc' := 64) rfl (hb hby d4_21) rfl ((if0 _ _).trans (teq hc8).1) (by decide) (by decide) ?_
        show Steps p.tables e below (T6.setTop (mkF m 64 #[.val (.ref a1), .val (.long q2), .second] [])) _
        refine XS.aloadN X6.here hx rfl (hb hby d4_64) rfl rfl ?_
        show Steps p.tables e below (T6.setTop (mkF m 65 #[.val (.ref a1), .val (.long q2), .second] [(.ref a1)])) _
        refine XS.iconst X6.here hx rfl (hb hby d4_65) ?_
        show Steps p.tables e below (T6.setTop (mkF m 66 #[.val (.ref a1), .val (.long q2), .second] [(.int (0 : Int32)), (.ref a1)])) _
        refine st9 _ ?_
        show Steps p.tables e below (T9.setTop (mkF m 69 #[.val (.ref a1), .val (.long q2), .second] [])) _
        exact X9.returnOut hx Bd.returns (hb hby d4_69) hr
      · show Q_rmW Z a1 q2 pr wb gu bo un pr' wb' gu' bo' un' h0 n0 _ T9.heap _
        rw [e9]
        exact ⟨rfl, N9, K9, f11, (by rw [← h_pr]; exact f12), (by rw [← h_wb]; simp only [wbF, boF, unF, if_pos hc3, if_pos hc8]; exact f13), (by rw [← h_gu]; exact Fw9), (by rw [← h_bo]; simp only [wbF, boF, unF, if_pos hc3, if_pos hc8]; exact f14), (by rw [← h_un]; simp only [wbF, boF, unF, if_pos hc3, if_pos hc8]; exact f15)⟩
    · obtain ⟨T16, X16, e16, st16⟩ := getS2 X6 hx hZ hown (host := "") (Or.inl (hw _ (List.mem_of_getElem? (i := 23) rfl))) Via.refl e6 (own_sta_keep S_P K4 E_a1) (g := (mkF m 28 #[.val (.ref a1), .val (.long q2), .second] [(.long (2 : Int64)), (.long q2)])) rfl (hb hby d4_28)
      have pre17 : ∀ t, Steps p.tables e below (T16.setTop (mkF m 33 #[.val (.ref a1), .val (.long q2), .second] [(.int (lcmpW q2 (80000 : Int64)))])) t → Steps p.tables e below (s₁.setTop (entryFrame m #[(.ref a1), (.long q2)] 3)) t := fun t k => pre7 t (by
          show Steps p.tables e below (T6.setTop (mkF m 21 #[.val (.ref a1), .val (.long q2), .second] [(.int gu)])) _
          refine XS.ifNo X6.here hx rfl (hb hby d4_21) rfl ((if0 _ _).trans (feq hc8).1) ?_
          show Steps p.tables e below (T6.setTop (mkF m 24 #[.val (.ref a1), .val (.long q2), .second] [])) _
          refine XS.lloadN X6.here hx rfl (hb hby d4_24) rfl ?_
          show Steps p.tables e below (T6.setTop (mkF m 25 #[.val (.ref a1), .val (.long q2), .second] [(.long q2)])) _
          refine X6.ldc2Long hx hown (mvT hZ (hw _ (List.mem_of_getElem? (i := 27) rfl))) (g := (mkF m 25 #[.val (.ref a1), .val (.long q2), .second] [(.long q2)])) rfl (hb hby d4_25) _ ?_
          show Steps p.tables e below (T6.setTop (mkF m 28 #[.val (.ref a1), .val (.long q2), .second] [(.long (2 : Int64)), (.long q2)])) _
          refine st16 _ ?_
          show Steps p.tables e below (T16.setTop (mkF m 31 #[.val (.ref a1), .val (.long q2), .second] [(.long (40000 : Int64)), (.long (2 : Int64)), (.long q2)])) _
          refine XS.lmul X16.here hx rfl (hb hby d4_31) rfl ?_
          show Steps p.tables e below (T16.setTop (mkF m 32 #[.val (.ref a1), .val (.long q2), .second] [(.long (80000 : Int64)), (.long q2)])) _
          refine XS.lcmp X16.here hx rfl (hb hby d4_32) rfl ?_
          exact k)
      by_cases hc18 : (lcmpW q2 (80000 : Int64)) < (0 : Int32)
      · have f19 := (Fld.other W4 F_backoff (Or.inr (slot_ne (Or.inl (hw _ (List.mem_of_getElem? (i := 29) rfl))) (Or.inl (hw _ (List.mem_of_getElem? (i := 26) rfl))) (by decide) (t := .int) (t' := .boolean) (by decide) (by decide))))
        obtain ⟨T20, X20, e20, st20⟩ := getF X16 hx hZ hown (host := "") (Or.inl (hw _ (List.mem_of_getElem? (i := 28) rfl))) Via.refl e16 f19 (g := (mkF m 43 #[.val (.ref a1), .val (.long q2), .second] [(.ref a1), (.int (2 : Int32)), (.int (1 : Int32)), (.int (256 : Int32)), (.ref a1)])) rfl rfl (hb hby d4_43)
        obtain ⟨_, _, ⟨T21, L21, k21, n21⟩, -, X21, ⟨Lc21, hQ21, l21, y21, z21⟩, st21⟩ := Jvm.LawKit.callS X20 hx (y := (⟨"java/lang/Math", "max", "(II)I"⟩ : MethodName)) hown (mvT hZ (hw _ (List.mem_of_getElem? (i := 30) rfl))) (mvT hZ (hw _ (List.mem_of_getElem? (i := 31) rfl))) (mvT hZ (hw _ (List.mem_of_getElem? (i := 32) rfl))) (mvT hZ (hw _ (List.mem_of_getElem? (i := 33) rfl))) (by decide) (backOf (W := 2) (rmMax l Z a0 hw [] (1 : Int32) ((2 : Int32) * bo) (maxW (1 : Int32) ((2 : Int32) * bo)) h4 n0 (Nat.le_trans Z0 K4.1) rfl) hZ (hw _ (List.mem_of_getElem? (i := 33) rfl)) (hw _ (List.mem_of_getElem? (i := 32) rfl)) (by decide) (by decide)) (g := (mkF m 47 #[.val (.ref a1), .val (.long q2), .second] [(.int ((2 : Int32) * bo)), (.int (1 : Int32)), (.int (256 : Int32)), (.ref a1)])) rfl (by rw [hml]; rfl) (argsL := [(.int (1 : Int32)), (.int ((2 : Int32) * bo))]) (rest := [(.int (256 : Int32)), (.ref a1)]) (lenOf pd_rmW_0 rfl) rfl (by show 2 * 0 + _ ≤ _; exact Nat.le_of_eq rfl) (hb hby d4_47) (fun _ _ => ⟨rfl, e20, (by decide : 0 + 0 ≤ _), (by decide : 0 + 0 ≤ _)⟩)
        dsimp only [Pt.U, Pt.locs, Pt.cells, Pt.slots] at X21 l21 y21 z21 st21 hQ21
        subst l21 y21 z21
        obtain ⟨rfl, N21q, e21⟩ := hQ21
        have N21 := Fr.app N4 N21q
        obtain ⟨_, _, ⟨T22, L22, k22, n22⟩, -, X22, ⟨Lc22, hQ22, l22, y22, z22⟩, st22⟩ := Jvm.LawKit.callS X21 hx (y := (⟨"java/lang/Math", "min", "(II)I"⟩ : MethodName)) hown (mvT hZ (hw _ (List.mem_of_getElem? (i := 34) rfl))) (mvT hZ (hw _ (List.mem_of_getElem? (i := 35) rfl))) (mvT hZ (hw _ (List.mem_of_getElem? (i := 32) rfl))) (mvT hZ (hw _ (List.mem_of_getElem? (i := 36) rfl))) (by decide) (backOf (W := 1) (rmMin l Z a0 hw [] (256 : Int32) (maxW (1 : Int32) ((2 : Int32) * bo)) (minW (256 : Int32) (maxW (1 : Int32) ((2 : Int32) * bo))) h4 n0 (Nat.le_trans Z0 K4.1) rfl) hZ (hw _ (List.mem_of_getElem? (i := 36) rfl)) (hw _ (List.mem_of_getElem? (i := 32) rfl)) (by decide) (by decide)) (g := (mkF m 50 #[.val (.ref a1), .val (.long q2), .second] [(.int (maxW (1 : Int32) ((2 : Int32) * bo))), (.int (256 : Int32)), (.ref a1)])) rfl (by rw [hml]; rfl) (argsL := [(.int (256 : Int32)), (.int (maxW (1 : Int32) ((2 : Int32) * bo)))]) (rest := [(.ref a1)]) (lenOf pd_rmW_0 rfl) rfl (by show 2 * 0 + _ ≤ _; exact Nat.le_of_eq rfl) (hb hby d4_50) (fun _ _ => ⟨rfl, e21, (by decide : 0 + 0 ≤ _), (by decide : 0 + 0 ≤ _)⟩)
        dsimp only [Pt.U, Pt.locs, Pt.cells, Pt.slots] at X22 l22 y22 z22 st22 hQ22
        subst l22 y22 z22
        obtain ⟨rfl, N22q, e22⟩ := hQ22
        have N22 := Fr.app N21 N22q
        have f24 := (Exa.wr W4 E_a1)
        obtain ⟨T23, h23, X23, e23, W23, st23⟩ := putF X22 hx hZ hown (host := "") (Or.inl (hw _ (List.mem_of_getElem? (i := 28) rfl))) Via.refl e22 f19 f24 (Or.inl (hw _ (List.mem_of_getElem? (i := 29) rfl))) (hw _ (List.mem_of_getElem? (i := 1) rfl)) (ty := .int) (by decide) rfl rfl (g := (mkF m 53 #[.val (.ref a1), .val (.long q2), .second] [(.int (minW (256 : Int32) (maxW (1 : Int32) ((2 : Int32) * bo)))), (.ref a1)])) rfl rfl (hb hby d4_53)
        have Fw23 : Fld Z h23 a1 "com/example/bouncer/bouncer/http/Polling" "backoff" "I" (.int (minW (256 : Int32) (maxW (1 : Int32) ((2 : Int32) * bo)))) := f19.same W23
        have K23 : Keep h0 h23 [a1] := (K4).wr W23 (Or.inl (List.mem_of_getElem? (i := 0) rfl))
        have N23 := Fr.snoc X23 N22 g_a1
        obtain ⟨T25, X25, e25, st25⟩ := getF X23 hx hZ hown (host := "") (Or.inl (hw _ (List.mem_of_getElem? (i := 28) rfl))) Via.refl e23 Fw23 (g := (mkF m 58 #[.val (.ref a1), .val (.long q2), .second] [(.ref a1), (.ref a1)])) rfl rfl (hb hby d4_58)
        have f27 := (Exa.wr W23 f24)
        have f28 := (Fld.other W23 (Fld.other W4 F_unpolled (Or.inr (slot_ne (Or.inl (hw _ (List.mem_of_getElem? (i := 38) rfl))) (Or.inl (hw _ (List.mem_of_getElem? (i := 26) rfl))) (by decide) (t := .int) (t' := .boolean) (by decide) (by decide)))) (Or.inr (slot_ne (Or.inl (hw _ (List.mem_of_getElem? (i := 38) rfl))) (Or.inl (hw _ (List.mem_of_getElem? (i := 29) rfl))) (by decide) (t := .int) (t' := .int) (by decide) (by decide))))
        obtain ⟨T26, h26, X26, e26, W26, st26⟩ := putF X25 hx hZ hown (host := "") (Or.inl (hw _ (List.mem_of_getElem? (i := 37) rfl))) Via.refl e25 f28 f27 (Or.inl (hw _ (List.mem_of_getElem? (i := 38) rfl))) (hw _ (List.mem_of_getElem? (i := 1) rfl)) (ty := .int) (by decide) rfl rfl (g := (mkF m 61 #[.val (.ref a1), .val (.long q2), .second] [(.int (minW (256 : Int32) (maxW (1 : Int32) ((2 : Int32) * bo)))), (.ref a1)])) rfl rfl (hb hby d4_61)
        have Fw26 : Fld Z h26 a1 "com/example/bouncer/bouncer/http/Polling" "unpolled" "I" (.int (minW (256 : Int32) (maxW (1 : Int32) ((2 : Int32) * bo)))) := f28.same W26
        have K26 : Keep h0 h26 [a1] := (K23).wr W26 (Or.inl (List.mem_of_getElem? (i := 0) rfl))
        have N26 := Fr.snoc X26 N23 g_a1
        have f30 := (Exa.wr W26 f27)
        have f31 := (Fld.other W26 (Fld.other W23 f5 (Or.inr (slot_ne (Or.inl (hw _ (List.mem_of_getElem? (i := 17) rfl))) (Or.inl (hw _ (List.mem_of_getElem? (i := 29) rfl))) (by decide) (t := .boolean) (t' := .int) (by decide) (by decide)))) (Or.inr (slot_ne (Or.inl (hw _ (List.mem_of_getElem? (i := 17) rfl))) (Or.inl (hw _ (List.mem_of_getElem? (i := 38) rfl))) (by decide) (t := .boolean) (t' := .int) (by decide) (by decide))))
        obtain ⟨T29, h29, X29, e29, W29, st29⟩ := putFN X26 hx hZ hown (hw _ (List.mem_of_getElem? (i := 16) rfl)) Via.refl e26 f31 f30 (Or.inl (hw _ (List.mem_of_getElem? (i := 17) rfl))) (hw _ (List.mem_of_getElem? (i := 1) rfl)) (ty := .boolean) (v' := (.int (0 : Int32))) (by decide) rfl (fits_nar_bool (0 : Int32)) (g := (mkF m 66 #[.val (.ref a1), .val (.long q2), .second] [(.int (0 : Int32)), (.ref a1)])) rfl rfl (hb hby d4_66)
        have Fw29 : Fld Z h29 a1 "com/example/bouncer/bouncer/http/Polling" "gaveUp" "Z" (.int (0 : Int32)) := f31.same W29
        have K29 : Keep h0 h29 [a1] := (K26).wr W29 (Or.inl (List.mem_of_getElem? (i := 0) rfl))
        have N29 := Fr.snoc X29 N26 g_a1
        have f32 := (Exa.wr W29 f30)
        have f33 := (Fld.other W29 (Fld.other W26 (Fld.other W23 (Fld.other W4 F_processors (Or.inr (slot_ne (Or.inr (hw _ (List.mem_of_getElem? (i := 10) rfl))) (Or.inl (hw _ (List.mem_of_getElem? (i := 26) rfl))) (by decide) (t := .int) (t' := .boolean) (by decide) (by decide)))) (Or.inr (slot_ne (Or.inr (hw _ (List.mem_of_getElem? (i := 10) rfl))) (Or.inl (hw _ (List.mem_of_getElem? (i := 29) rfl))) (by decide) (t := .int) (t' := .int) (by decide) (by decide)))) (Or.inr (slot_ne (Or.inr (hw _ (List.mem_of_getElem? (i := 10) rfl))) (Or.inl (hw _ (List.mem_of_getElem? (i := 38) rfl))) (by decide) (t := .int) (t' := .int) (by decide) (by decide)))) (Or.inr (slot_ne (Or.inr (hw _ (List.mem_of_getElem? (i := 10) rfl))) (Or.inl (hw _ (List.mem_of_getElem? (i := 17) rfl))) (by decide) (t := .int) (t' := .boolean) (by decide) (by decide))))
        have f34 := (Fld.other W29 (Fld.other W26 (Fld.other W23 Fw4 (Or.inr (slot_ne (Or.inl (hw _ (List.mem_of_getElem? (i := 26) rfl))) (Or.inl (hw _ (List.mem_of_getElem? (i := 29) rfl))) (by decide) (t := .boolean) (t' := .int) (by decide) (by decide)))) (Or.inr (slot_ne (Or.inl (hw _ (List.mem_of_getElem? (i := 26) rfl))) (Or.inl (hw _ (List.mem_of_getElem? (i := 38) rfl))) (by decide) (t := .boolean) (t' := .int) (by decide) (by decide)))) (Or.inr (slot_ne (Or.inl (hw _ (List.mem_of_getElem? (i := 26) rfl))) (Or.inl (hw _ (List.mem_of_getElem? (i := 17) rfl))) (by decide) (t := .boolean) (t' := .boolean) (by decide) (by decide))))
        have f35 := (Fld.other W29 (Fld.other W26 Fw23 (Or.inr (slot_ne (Or.inl (hw _ (List.mem_of_getElem? (i := 29) rfl))) (Or.inl (hw _ (List.mem_of_getElem? (i := 38) rfl))) (by decide) (t := .int) (t' := .int) (by decide) (by decide)))) (Or.inr (slot_ne (Or.inl (hw _ (List.mem_of_getElem? (i := 29) rfl))) (Or.inl (hw _ (List.mem_of_getElem? (i := 17) rfl))) (by decide) (t := .int) (t' := .boolean) (by decide) (by decide))))
        have f36 := (Fld.other W29 Fw26 (Or.inr (slot_ne (Or.inl (hw _ (List.mem_of_getElem? (i := 38) rfl))) (Or.inl (hw _ (List.mem_of_getElem? (i := 17) rfl))) (by decide) (t := .int) (t' := .boolean) (by decide) (by decide))))
        obtain ⟨fs, hr, hrun, hended, hW, hsame⟩ := X29.leave (v := none) (fun _ => rfl)
        refine ⟨_, _, pre17 _ ?_, hrun, hended, _, _, rfl, ?_, ⟨_, rfl⟩, hW, hsame.mono (by decide) (by decide)⟩
        · show Steps p.tables e below (T16.setTop (mkF m 33 #[.val (.ref a1), .val (.long q2), .second] [(.int (lcmpW q2 (80000 : Int64)))])) _
          refine XS.ifNo X16.here hx rfl (hb hby d4_33) rfl ((if0 _ _).trans (tlt hc18).2.1) ?_
          show Steps p.tables e below (T16.setTop (mkF m 36 #[.val (.ref a1), .val (.long q2), .second] [])) _
          refine XS.aloadN X16.here hx rfl (hb hby d4_36) rfl rfl ?_
          show Steps p.tables e below (T16.setTop (mkF m 37 #[.val (.ref a1), .val (.long q2), .second] [(.ref a1)])) _
          refine XS.sipush X16.here hx rfl (hb hby d4_37) ?_
          show Steps p.tables e below (T16.setTop (mkF m 40 #[.val (.ref a1), .val (.long q2), .second] [(.int (256 : Int32)), (.ref a1)])) _
          refine XS.iconst X16.here hx rfl (hb hby d4_40) ?_
          show Steps p.tables e below (T16.setTop (mkF m 41 #[.val (.ref a1), .val (.long q2), .second] [(.int (1 : Int32)), (.int (256 : Int32)), (.ref a1)])) _
          refine XS.iconst X16.here hx rfl (hb hby d4_41) ?_
          show Steps p.tables e below (T16.setTop (mkF m 42 #[.val (.ref a1), .val (.long q2), .second] [(.int (2 : Int32)), (.int (1 : Int32)), (.int (256 : Int32)), (.ref a1)])) _
          refine XS.aloadN X16.here hx rfl (hb hby d4_42) rfl rfl ?_
          show Steps p.tables e below (T16.setTop (mkF m 43 #[.val (.ref a1), .val (.long q2), .second] [(.ref a1), (.int (2 : Int32)), (.int (1 : Int32)), (.int (256 : Int32)), (.ref a1)])) _
          refine st20 _ ?_
          show Steps p.tables e below (T20.setTop (mkF m 46 #[.val (.ref a1), .val (.long q2), .second] [(.int bo), (.int (2 : Int32)), (.int (1 : Int32)), (.int (256 : Int32)), (.ref a1)])) _
          refine XS.imul X20.here hx rfl (hb hby d4_46) rfl ?_
          show Steps p.tables e below (T20.setTop (mkF m 47 #[.val (.ref a1), .val (.long q2), .second] [(.int ((2 : Int32) * bo)), (.int (1 : Int32)), (.int (256 : Int32)), (.ref a1)])) _
          refine st21 _ ?_
          show Steps p.tables e below (T21.setTop (mkF m 50 #[.val (.ref a1), .val (.long q2), .second] [(.int (maxW (1 : Int32) ((2 : Int32) * bo))), (.int (256 : Int32)), (.ref a1)])) _
          refine st22 _ ?_
          show Steps p.tables e below (T22.setTop (mkF m 53 #[.val (.ref a1), .val (.long q2), .second] [(.int (minW (256 : Int32) (maxW (1 : Int32) ((2 : Int32) * bo)))), (.ref a1)])) _
          refine st23 _ ?_
          show Steps p.tables e below (T23.setTop (mkF m 56 #[.val (.ref a1), .val (.long q2), .second] [])) _
          refine XS.aloadN X23.here hx rfl (hb hby d4_56) rfl rfl ?_
          show Steps p.tables e below (T23.setTop (mkF m 57 #[.val (.ref a1), .val (.long q2), .second] [(.ref a1)])) _
          refine XS.aloadN X23.here hx rfl (hb hby d4_57) rfl rfl ?_
          show Steps p.tables e below (T23.setTop (mkF m 58 #[.val (.ref a1), .val (.long q2), .second] [(.ref a1), (.ref a1)])) _
          refine st25 _ ?_
          show Steps p.tables e below (T25.setTop (mkF m 61 #[.val (.ref a1), .val (.long q2), .second] [(.int (minW (256 : Int32) (maxW (1 : Int32) ((2 : Int32) * bo)))), (.ref a1)])) _
          refine st26 _ ?_
          show Steps p.tables e below (T26.setTop (mkF m 64 #[.val (.ref a1), .val (.long q2), .second] [])) _
          refine XS.aloadN X26.here hx rfl (hb hby d4_64) rfl rfl ?_
          show Steps p.tables e below (T26.setTop (mkF m 65 #[.val (.ref a1), .val (.long q2), .second] [(.ref a1)])) _
          refine XS.iconst X26.here hx rfl (hb hby d4_65) ?_
          show Steps p.tables e below (T26.setTop (mkF m 66 #[.val (.ref a1), .val (.long q2), .second] [(.int (0 : Int32)), (.ref a1)])) _
          refine st29 _ ?_
          show Steps p.tables e below (T29.setTop (mkF m 69 #[.val (.ref a1), .val (.long q2), .second] [])) _
          exact X29.returnOut hx Bd.returns (hb hby d4_69) hr
        · show Q_rmW Z a1 q2 pr wb gu bo un pr' wb' gu' bo' un' h0 n0 _ T29.heap _
          rw [e29]
          exact ⟨rfl, N29, K29, f32, (by rw [← h_pr]; exact f33), (by rw [← h_wb]; simp only [wbF, boF, unF, if_pos hc3, if_neg hc8, if_pos hc18]; exact f34), (by rw [← h_gu]; exact Fw29), (by rw [← h_bo]; simp only [wbF, boF, unF, if_pos hc3, if_neg hc8, if_pos hc18]; exact f35), (by rw [← h_un]; simp only [wbF, boF, unF, if_pos hc3, if_neg hc8, if_pos hc18]; exact f36)⟩
      · have f38 := (Exa.wr W4 E_a1)
        obtain ⟨T37, h37, X37, e37, W37, st37⟩ := putFN X16 hx hZ hown (hw _ (List.mem_of_getElem? (i := 16) rfl)) Via.refl e16 f5 f38 (Or.inl (hw _ (List.mem_of_getElem? (i := 17) rfl))) (hw _ (List.mem_of_getElem? (i := 1) rfl)) (ty := .boolean) (v' := (.int (0 : Int32))) (by decide) rfl (fits_nar_bool (0 : Int32)) (g := (mkF m 66 #[.val (.ref a1), .val (.long q2), .second] [(.int (0 : Int32)), (.ref a1)])) rfl rfl (hb hby d4_66)
        have Fw37 : Fld Z h37 a1 "com/example/bouncer/bouncer/http/Polling" "gaveUp" "Z" (.int (0 : Int32)) := f5.same W37
        have K37 : Keep h0 h37 [a1] := (K4).wr W37 (Or.inl (List.mem_of_getElem? (i := 0) rfl))
        have N37 := Fr.snoc X37 N4 g_a1
        have f39 := (Exa.wr W37 f38)
        have f40 := (Fld.other W37 (Fld.other W4 F_processors (Or.inr (slot_ne (Or.inr (hw _ (List.mem_of_getElem? (i := 10) rfl))) (Or.inl (hw _ (List.mem_of_getElem? (i := 26) rfl))) (by decide) (t := .int) (t' := .boolean) (by decide) (by decide)))) (Or.inr (slot_ne (Or.inr (hw _ (List.mem_of_getElem? (i := 10) rfl))) (Or.inl (hw _ (List.mem_of_getElem? (i := 17) rfl))) (by decide) (t := .int) (t' := .boolean) (by decide) (by decide))))
        have f41 := (Fld.other W37 Fw4 (Or.inr (slot_ne (Or.inl (hw _ (List.mem_of_getElem? (i := 26) rfl))) (Or.inl (hw _ (List.mem_of_getElem? (i := 17) rfl))) (by decide) (t := .boolean) (t' := .boolean) (by decide) (by decide))))
        have f42 := (Fld.other W37 (Fld.other W4 F_backoff (Or.inr (slot_ne (Or.inl (hw _ (List.mem_of_getElem? (i := 29) rfl))) (Or.inl (hw _ (List.mem_of_getElem? (i := 26) rfl))) (by decide) (t := .int) (t' := .boolean) (by decide) (by decide)))) (Or.inr (slot_ne (Or.inl (hw _ (List.mem_of_getElem? (i := 29) rfl))) (Or.inl (hw _ (List.mem_of_getElem? (i := 17) rfl))) (by decide) (t := .int) (t' := .boolean) (by decide) (by decide))))
        have f43 := (Fld.other W37 (Fld.other W4 F_unpolled (Or.inr (slot_ne (Or.inl (hw _ (List.mem_of_getElem? (i := 38) rfl))) (Or.inl (hw _ (List.mem_of_getElem? (i := 26) rfl))) (by decide) (t := .int) (t' := .boolean) (by decide) (by decide)))) (Or.inr (slot_ne (Or.inl (hw _ (List.mem_of_getElem? (i := 38) rfl))) (Or.inl (hw _ (List.mem_of_getElem? (i := 17) rfl))) (by decide) (t := .int) (t' := .boolean) (by decide) (by decide))))
        obtain ⟨fs, hr, hrun, hended, hW, hsame⟩ := X37.leave (v := none) (fun _ => rfl)
        refine ⟨_, _, pre17 _ ?_, hrun, hended, _, _, rfl, ?_, ⟨_, rfl⟩, hW, hsame.mono (by decide) (by decide)⟩
        · show Steps p.tables e below (T16.setTop (mkF m 33 #[.val (.ref a1), .val (.long q2), .second] [(.int (lcmpW q2 (80000 : Int64)))])) _
          refine XS.ifYes X16.here hx rfl (pc0 := 33) (pc' := 64) rfl (hb hby d4_33) rfl ((if0 _ _).trans (flt hc18).2.1) (by decide) (by decide) ?_
          show Steps p.tables e below (T16.setTop (mkF m 64 #[.val (.ref a1), .val (.long q2), .second] [])) _
          refine XS.aloadN X16.here hx rfl (hb hby d4_64) rfl rfl ?_
          show Steps p.tables e below (T16.setTop (mkF m 65 #[.val (.ref a1), .val (.long q2), .second] [(.ref a1)])) _
          refine XS.iconst X16.here hx rfl (hb hby d4_65) ?_
          show Steps p.tables e below (T16.setTop (mkF m 66 #[.val (.ref a1), .val (.long q2), .second] [(.int (0 : Int32)), (.ref a1)])) _
          refine st37 _ ?_
          show Steps p.tables e below (T37.setTop (mkF m 69 #[.val (.ref a1), .val (.long q2), .second] [])) _
          exact X37.returnOut hx Bd.returns (hb hby d4_69) hr
        · show Q_rmW Z a1 q2 pr wb gu bo un pr' wb' gu' bo' un' h0 n0 _ T37.heap _
          rw [e37]
          exact ⟨rfl, N37, K37, f39, (by rw [← h_pr]; exact f40), (by rw [← h_wb]; simp only [wbF, boF, unF, if_pos hc3, if_neg hc8, if_neg hc18]; exact f41), (by rw [← h_gu]; exact Fw37), (by rw [← h_bo]; simp only [wbF, boF, unF, if_pos hc3, if_neg hc8, if_neg hc18]; exact f42), (by rw [← h_un]; simp only [wbF, boF, unF, if_pos hc3, if_neg hc8, if_neg hc18]; exact f43)⟩
  · obtain ⟨T44, h44, X44, e44, W44, st44⟩ := putFN X1 hx hZ hown (hw _ (List.mem_of_getElem? (i := 25) rfl)) Via.refl e1 F_waitedBriefly E_a1 (Or.inl (hw _ (List.mem_of_getElem? (i := 26) rfl))) (hw _ (List.mem_of_getElem? (i := 1) rfl)) (ty := .boolean) (v' := (.int (0 : Int32))) (by decide) rfl (fits_nar_bool (0 : Int32)) (g := (mkF m 14 #[.val (.ref a1), .val (.long q2), .second] [(.int (0 : Int32)), (.ref a1)])) rfl rfl (hb hby d4_14)
    have Fw44 : Fld Z h44 a1 "com/example/bouncer/bouncer/http/Polling" "waitedBriefly" "Z" (.int (0 : Int32)) := F_waitedBriefly.same W44
    have K44 : Keep h0 h44 [a1] := ((Keep.refl h0 [a1])).wr W44 (Or.inl (List.mem_of_getElem? (i := 0) rfl))
    have N44 := Fr.snoc X44 N0 g_a1
    have f45 := (Fld.other W44 F_gaveUp (Or.inr (slot_ne (Or.inl (hw _ (List.mem_of_getElem? (i := 17) rfl))) (Or.inl (hw _ (List.mem_of_getElem? (i := 26) rfl))) (by decide) (t := .boolean) (t' := .boolean) (by decide) (by decide))))
    obtain ⟨T46, X46, e46, st46⟩ := getF X44 hx hZ hown (host := "") (Or.inl (hw _ (List.mem_of_getElem? (i := 16) rfl))) Via.refl e44 f45 (g := (mkF m 18 #[.val (.ref a1), .val (.long q2), .second] [(.ref a1)])) rfl rfl (hb hby d4_18)
    have pre47 : ∀ t, Steps p.tables e below (T46.setTop (mkF m 21 #[.val (.ref a1), .val (.long q2), .second] [(.int gu)])) t → Steps p.tables e below (s₁.setTop (entryFrame m #[(.ref a1), (.long q2)] 3)) t := fun t k => pre2 t (by
        show Steps p.tables e below (T1.setTop (mkF m 6 #[.val (.ref a1), .val (.long q2), .second] [(.int (lcmpW q2 (40000 : Int64))), (.ref a1)])) _
        refine XS.ifYes X1.here hx rfl (pc0 := 6) (pc' := 13) rfl (hb hby d4_6) rfl ((if0 _ _).trans (flt hc3).2.1) (by decide) (by decide) ?_
        show Steps p.tables e below (T1.setTop (mkF m 13 #[.val (.ref a1), .val (.long q2), .second] [(.ref a1)])) _
        refine XS.iconst X1.here hx rfl (hb hby d4_13) ?_
        show Steps p.tables e below (T1.setTop (mkF m 14 #[.val (.ref a1), .val (.long q2), .second] [(.int (0 : Int32)), (.ref a1)])) _
        refine st44 _ ?_
        show Steps p.tables e below (T44.setTop (mkF m 17 #[.val (.ref a1), .val (.long q2), .second] [])) _
        refine XS.aloadN X44.here hx rfl (hb hby d4_17) rfl rfl ?_
        show Steps p.tables e below (T44.setTop (mkF m 18 #[.val (.ref a1), .val (.long q2), .second] [(.ref a1)])) _
        refine st46 _ ?_
        exact k)
    by_cases hc48 : gu = (0 : Int32)
    · have f50 := (Exa.wr W44 E_a1)
      obtain ⟨T49, h49, X49, e49, W49, st49⟩ := putFN X46 hx hZ hown (hw _ (List.mem_of_getElem? (i := 16) rfl)) Via.refl e46 f45 f50 (Or.inl (hw _ (List.mem_of_getElem? (i := 17) rfl))) (hw _ (List.mem_of_getElem? (i := 1) rfl)) (ty := .boolean) (v' := (.int (0 : Int32))) (by decide) rfl (fits_nar_bool (0 : Int32)) (g := (mkF m 66 #[.val (.ref a1), .val (.long q2), .second] [(.int (0 : Int32)), (.ref a1)])) rfl rfl (hb hby d4_66)
      have Fw49 : Fld Z h49 a1 "com/example/bouncer/bouncer/http/Polling" "gaveUp" "Z" (.int (0 : Int32)) := f45.same W49
      have K49 : Keep h0 h49 [a1] := (K44).wr W49 (Or.inl (List.mem_of_getElem? (i := 0) rfl))
      have N49 := Fr.snoc X49 N44 g_a1
      have f51 := (Exa.wr W49 f50)
      have f52 := (Fld.other W49 (Fld.other W44 F_processors (Or.inr (slot_ne (Or.inr (hw _ (List.mem_of_getElem? (i := 10) rfl))) (Or.inl (hw _ (List.mem_of_getElem? (i := 26) rfl))) (by decide) (t := .int) (t' := .boolean) (by decide) (by decide)))) (Or.inr (slot_ne (Or.inr (hw _ (List.mem_of_getElem? (i := 10) rfl))) (Or.inl (hw _ (List.mem_of_getElem? (i := 17) rfl))) (by decide) (t := .int) (t' := .boolean) (by decide) (by decide))))
      have f53 := (Fld.other W49 Fw44 (Or.inr (slot_ne (Or.inl (hw _ (List.mem_of_getElem? (i := 26) rfl))) (Or.inl (hw _ (List.mem_of_getElem? (i := 17) rfl))) (by decide) (t := .boolean) (t' := .boolean) (by decide) (by decide))))
      have f54 := (Fld.other W49 (Fld.other W44 F_backoff (Or.inr (slot_ne (Or.inl (hw _ (List.mem_of_getElem? (i := 29) rfl))) (Or.inl (hw _ (List.mem_of_getElem? (i := 26) rfl))) (by decide) (t := .int) (t' := .boolean) (by decide) (by decide)))) (Or.inr (slot_ne (Or.inl (hw _ (List.mem_of_getElem? (i := 29) rfl))) (Or.inl (hw _ (List.mem_of_getElem? (i := 17) rfl))) (by decide) (t := .int) (t' := .boolean) (by decide) (by decide))))
      have f55 := (Fld.other W49 (Fld.other W44 F_unpolled (Or.inr (slot_ne (Or.inl (hw _ (List.mem_of_getElem? (i := 38) rfl))) (Or.inl (hw _ (List.mem_of_getElem? (i := 26) rfl))) (by decide) (t := .int) (t' := .boolean) (by decide) (by decide)))) (Or.inr (slot_ne (Or.inl (hw _ (List.mem_of_getElem? (i := 38) rfl))) (Or.inl (hw _ (List.mem_of_getElem? (i := 17) rfl))) (by decide) (t := .int) (t' := .boolean) (by decide) (by decide))))
      obtain ⟨fs, hr, hrun, hended, hW, hsame⟩ := X49.leave (v := none) (fun _ => rfl)
      refine ⟨_, _, pre47 _ ?_, hrun, hended, _, _, rfl, ?_, ⟨_, rfl⟩, hW, hsame.mono (by decide) (by decide)⟩
      · show Steps p.tables e below (T46.setTop (mkF m 21 #[.val (.ref a1), .val (.long q2), .second] [(.int gu)])) _
        refine XS.ifYes X46.here hx rfl (pc0 := 21) (pc' := 64) rfl (hb hby d4_21) rfl ((if0 _ _).trans (teq hc48).1) (by decide) (by decide) ?_
        show Steps p.tables e below (T46.setTop (mkF m 64 #[.val (.ref a1), .val (.long q2), .second] [])) _
        refine XS.aloadN X46.here hx rfl (hb hby d4_64) rfl rfl ?_
        show Steps p.tables e below (T46.setTop (mkF m 65 #[.val (.ref a1), .val (.long q2), .second] [(.ref a1)])) _
        refine XS.iconst X46.here hx rfl (hb hby d4_65) ?_
        show Steps p.tables e below (T46.setTop (mkF m 66 #[.val (.ref a1), .val (.long q2), .second] [(.int (0 : Int32)), (.ref a1)])) _
        refine st49 _ ?_
        show Steps p.tables e below (T49.setTop (mkF m 69 #[.val (.ref a1), .val (.long q2), .second] [])) _
        exact X49.returnOut hx Bd.returns (hb hby d4_69) hr
      · show Q_rmW Z a1 q2 pr wb gu bo un pr' wb' gu' bo' un' h0 n0 _ T49.heap _
        rw [e49]
        exact ⟨rfl, N49, K49, f51, (by rw [← h_pr]; exact f52), (by rw [← h_wb]; simp only [wbF, boF, unF, if_neg hc3, if_pos hc48]; exact f53), (by rw [← h_gu]; exact Fw49), (by rw [← h_bo]; simp only [wbF, boF, unF, if_neg hc3, if_pos hc48]; exact f54), (by rw [← h_un]; simp only [wbF, boF, unF, if_neg hc3, if_pos hc48]; exact f55)⟩
    · obtain ⟨T56, X56, e56, st56⟩ := getS2 X46 hx hZ hown (host := "") (Or.inl (hw _ (List.mem_of_getElem? (i := 23) rfl))) Via.refl e46 (own_sta_keep S_P K44 E_a1) (g := (mkF m 28 #[.val (.ref a1), .val (.long q2), .second] [(.long (2 : Int64)), (.long q2)])) rfl (hb hby d4_28)
      have pre57 : ∀ t, Steps p.tables e below (T56.setTop (mkF m 33 #[.val (.ref a1), .val (.long q2), .second] [(.int (lcmpW q2 (80000 : Int64)))])) t → Steps p.tables e below (s₁.setTop (entryFrame m #[(.ref a1), (.long q2)] 3)) t := fun t k => pre47 t (by
          show Steps p.tables e below (T46.setTop (mkF m 21 #[.val (.ref a1), .val (.long q2), .second] [(.int gu)])) _
          refine XS.ifNo X46.here hx rfl (hb hby d4_21) rfl ((if0 _ _).trans (feq hc48).1) ?_
          show Steps p.tables e below (T46.setTop (mkF m 24 #[.val (.ref a1), .val (.long q2), .second] [])) _
          refine XS.lloadN X46.here hx rfl (hb hby d4_24) rfl ?_
          show Steps p.tables e below (T46.setTop (mkF m 25 #[.val (.ref a1), .val (.long q2), .second] [(.long q2)])) _
          refine X46.ldc2Long hx hown (mvT hZ (hw _ (List.mem_of_getElem? (i := 27) rfl))) (g := (mkF m 25 #[.val (.ref a1), .val (.long q2), .second] [(.long q2)])) rfl (hb hby d4_25) _ ?_
          show Steps p.tables e below (T46.setTop (mkF m 28 #[.val (.ref a1), .val (.long q2), .second] [(.long (2 : Int64)), (.long q2)])) _
          refine st56 _ ?_
          show Steps p.tables e below (T56.setTop (mkF m 31 #[.val (.ref a1), .val (.long q2), .second] [(.long (40000 : Int64)), (.long (2 : Int64)), (.long q2)])) _
          refine XS.lmul X56.here hx rfl (hb hby d4_31) rfl ?_
          show Steps p.tables e below (T56.setTop (mkF m 32 #[.val (.ref a1), .val (.long q2), .second] [(.long (80000 : Int64)), (.long q2)])) _
          refine XS.lcmp X56.here hx rfl (hb hby d4_32) rfl ?_
          exact k)
      by_cases hc58 : (lcmpW q2 (80000 : Int64)) < (0 : Int32)
      · have f59 := (Fld.other W44 F_backoff (Or.inr (slot_ne (Or.inl (hw _ (List.mem_of_getElem? (i := 29) rfl))) (Or.inl (hw _ (List.mem_of_getElem? (i := 26) rfl))) (by decide) (t := .int) (t' := .boolean) (by decide) (by decide))))
        obtain ⟨T60, X60, e60, st60⟩ := getF X56 hx hZ hown (host := "") (Or.inl (hw _ (List.mem_of_getElem? (i := 28) rfl))) Via.refl e56 f59 (g := (mkF m 43 #[.val (.ref a1), .val (.long q2), .second] [(.ref a1), (.int (2 : Int32)), (.int (1 : Int32)), (.int (256 : Int32)), (.ref a1)])) rfl rfl (hb hby d4_43)
        obtain ⟨_, _, ⟨T61, L61, k61, n61⟩, -, X61, ⟨Lc61, hQ61, l61, y61, z61⟩, st61⟩ := Jvm.LawKit.callS X60 hx (y := (⟨"java/lang/Math", "max", "(II)I"⟩ : MethodName)) hown (mvT hZ (hw _ (List.mem_of_getElem? (i := 30) rfl))) (mvT hZ (hw _ (List.mem_of_getElem? (i := 31) rfl))) (mvT hZ (hw _ (List.mem_of_getElem? (i := 32) rfl))) (mvT hZ (hw _ (List.mem_of_getElem? (i := 33) rfl))) (by decide) (backOf (W := 2) (rmMax l Z a0 hw [] (1 : Int32) ((2 : Int32) * bo) (maxW (1 : Int32) ((2 : Int32) * bo)) h44 n0 (Nat.le_trans Z0 K44.1) rfl) hZ (hw _ (List.mem_of_getElem? (i := 33) rfl)) (hw _ (List.mem_of_getElem? (i := 32) rfl)) (by decide) (by decide)) (g := (mkF m 47 #[.val (.ref a1), .val (.long q2), .second] [(.int ((2 : Int32) * bo)), (.int (1 : Int32)), (.int (256 : Int32)), (.ref a1)])) rfl (by rw [hml]; rfl) (argsL := [(.int (1 : Int32)), (.int ((2 : Int32) * bo))]) (rest := [(.int (256 : Int32)), (.ref a1)]) (lenOf pd_rmW_0 rfl) rfl (by show 2 * 0 + _ ≤ _; exact Nat.le_of_eq rfl) (hb hby d4_47) (fun _ _ => ⟨rfl, e60, (by decide : 0 + 0 ≤ _), (by decide : 0 + 0 ≤ _)⟩)
        dsimp only [Pt.U, Pt.locs, Pt.cells, Pt.slots] at X61 l61 y61 z61 st61 hQ61
        subst l61 y61 z61
        obtain ⟨rfl, N61q, e61⟩ := hQ61
        have N61 := Fr.app N44 N61q
        obtain ⟨_, _, ⟨T62, L62, k62, n62⟩, -, X62, ⟨Lc62, hQ62, l62, y62, z62⟩, st62⟩ := Jvm.LawKit.callS X61 hx (y := (⟨"java/lang/Math", "min", "(II)I"⟩ : MethodName)) hown (mvT hZ (hw _ (List.mem_of_getElem? (i := 34) rfl))) (mvT hZ (hw _ (List.mem_of_getElem? (i := 35) rfl))) (mvT hZ (hw _ (List.mem_of_getElem? (i := 32) rfl))) (mvT hZ (hw _ (List.mem_of_getElem? (i := 36) rfl))) (by decide) (backOf (W := 1) (rmMin l Z a0 hw [] (256 : Int32) (maxW (1 : Int32) ((2 : Int32) * bo)) (minW (256 : Int32) (maxW (1 : Int32) ((2 : Int32) * bo))) h44 n0 (Nat.le_trans Z0 K44.1) rfl) hZ (hw _ (List.mem_of_getElem? (i := 36) rfl)) (hw _ (List.mem_of_getElem? (i := 32) rfl)) (by decide) (by decide)) (g := (mkF m 50 #[.val (.ref a1), .val (.long q2), .second] [(.int (maxW (1 : Int32) ((2 : Int32) * bo))), (.int (256 : Int32)), (.ref a1)])) rfl (by rw [hml]; rfl) (argsL := [(.int (256 : Int32)), (.int (maxW (1 : Int32) ((2 : Int32) * bo)))]) (rest := [(.ref a1)]) (lenOf pd_rmW_0 rfl) rfl (by show 2 * 0 + _ ≤ _; exact Nat.le_of_eq rfl) (hb hby d4_50) (fun _ _ => ⟨rfl, e61, (by decide : 0 + 0 ≤ _), (by decide : 0 + 0 ≤ _)⟩)
        dsimp only [Pt.U, Pt.locs, Pt.cells, Pt.slots] at X62 l62 y62 z62 st62 hQ62
        subst l62 y62 z62
        obtain ⟨rfl, N62q, e62⟩ := hQ62
        have N62 := Fr.app N61 N62q
        have f64 := (Exa.wr W44 E_a1)
        obtain ⟨T63, h63, X63, e63, W63, st63⟩ := putF X62 hx hZ hown (host := "") (Or.inl (hw _ (List.mem_of_getElem? (i := 28) rfl))) Via.refl e62 f59 f64 (Or.inl (hw _ (List.mem_of_getElem? (i := 29) rfl))) (hw _ (List.mem_of_getElem? (i := 1) rfl)) (ty := .int) (by decide) rfl rfl (g := (mkF m 53 #[.val (.ref a1), .val (.long q2), .second] [(.int (minW (256 : Int32) (maxW (1 : Int32) ((2 : Int32) * bo)))), (.ref a1)])) rfl rfl (hb hby d4_53)
        have Fw63 : Fld Z h63 a1 "com/example/bouncer/bouncer/http/Polling" "backoff" "I" (.int (minW (256 : Int32) (maxW (1 : Int32) ((2 : Int32) * bo)))) := f59.same W63
        have K63 : Keep h0 h63 [a1] := (K44).wr W63 (Or.inl (List.mem_of_getElem? (i := 0) rfl))
        have N63 := Fr.snoc X63 N62 g_a1
        obtain ⟨T65, X65, e65, st65⟩ := getF X63 hx hZ hown (host := "") (Or.inl (hw _ (List.mem_of_getElem? (i := 28) rfl))) Via.refl e63 Fw63 (g := (mkF m 58 #[.val (.ref a1), .val (.long q2), .second] [(.ref a1), (.ref a1)])) rfl rfl (hb hby d4_58)
        have f67 := (Exa.wr W63 f64)
        have f68 := (Fld.other W63 (Fld.other W44 F_unpolled (Or.inr (slot_ne (Or.inl (hw _ (List.mem_of_getElem? (i := 38) rfl))) (Or.inl (hw _ (List.mem_of_getElem? (i := 26) rfl))) (by decide) (t := .int) (t' := .boolean) (by decide) (by decide)))) (Or.inr (slot_ne (Or.inl (hw _ (List.mem_of_getElem? (i := 38) rfl))) (Or.inl (hw _ (List.mem_of_getElem? (i := 29) rfl))) (by decide) (t := .int) (t' := .int) (by decide) (by decide))))
        obtain ⟨T66, h66, X66, e66, W66, st66⟩ := putF X65 hx hZ hown (host := "") (Or.inl (hw _ (List.mem_of_getElem? (i := 37) rfl))) Via.refl e65 f68 f67 (Or.inl (hw _ (List.mem_of_getElem? (i := 38) rfl))) (hw _ (List.mem_of_getElem? (i := 1) rfl)) (ty := .int) (by decide) rfl rfl (g := (mkF m 61 #[.val (.ref a1), .val (.long q2), .second] [(.int (minW (256 : Int32) (maxW (1 : Int32) ((2 : Int32) * bo)))), (.ref a1)])) rfl rfl (hb hby d4_61)
        have Fw66 : Fld Z h66 a1 "com/example/bouncer/bouncer/http/Polling" "unpolled" "I" (.int (minW (256 : Int32) (maxW (1 : Int32) ((2 : Int32) * bo)))) := f68.same W66
        have K66 : Keep h0 h66 [a1] := (K63).wr W66 (Or.inl (List.mem_of_getElem? (i := 0) rfl))
        have N66 := Fr.snoc X66 N63 g_a1
        have f70 := (Exa.wr W66 f67)
        have f71 := (Fld.other W66 (Fld.other W63 f45 (Or.inr (slot_ne (Or.inl (hw _ (List.mem_of_getElem? (i := 17) rfl))) (Or.inl (hw _ (List.mem_of_getElem? (i := 29) rfl))) (by decide) (t := .boolean) (t' := .int) (by decide) (by decide)))) (Or.inr (slot_ne (Or.inl (hw _ (List.mem_of_getElem? (i := 17) rfl))) (Or.inl (hw _ (List.mem_of_getElem? (i := 38) rfl))) (by decide) (t := .boolean) (t' := .int) (by decide) (by decide))))
        obtain ⟨T69, h69, X69, e69, W69, st69⟩ := putFN X66 hx hZ hown (hw _ (List.mem_of_getElem? (i := 16) rfl)) Via.refl e66 f71 f70 (Or.inl (hw _ (List.mem_of_getElem? (i := 17) rfl))) (hw _ (List.mem_of_getElem? (i := 1) rfl)) (ty := .boolean) (v' := (.int (0 : Int32))) (by decide) rfl (fits_nar_bool (0 : Int32)) (g := (mkF m 66 #[.val (.ref a1), .val (.long q2), .second] [(.int (0 : Int32)), (.ref a1)])) rfl rfl (hb hby d4_66)
        have Fw69 : Fld Z h69 a1 "com/example/bouncer/bouncer/http/Polling" "gaveUp" "Z" (.int (0 : Int32)) := f71.same W69
        have K69 : Keep h0 h69 [a1] := (K66).wr W69 (Or.inl (List.mem_of_getElem? (i := 0) rfl))
        have N69 := Fr.snoc X69 N66 g_a1
        have f72 := (Exa.wr W69 f70)
        have f73 := (Fld.other W69 (Fld.other W66 (Fld.other W63 (Fld.other W44 F_processors (Or.inr (slot_ne (Or.inr (hw _ (List.mem_of_getElem? (i := 10) rfl))) (Or.inl (hw _ (List.mem_of_getElem? (i := 26) rfl))) (by decide) (t := .int) (t' := .boolean) (by decide) (by decide)))) (Or.inr (slot_ne (Or.inr (hw _ (List.mem_of_getElem? (i := 10) rfl))) (Or.inl (hw _ (List.mem_of_getElem? (i := 29) rfl))) (by decide) (t := .int) (t' := .int) (by decide) (by decide)))) (Or.inr (slot_ne (Or.inr (hw _ (List.mem_of_getElem? (i := 10) rfl))) (Or.inl (hw _ (List.mem_of_getElem? (i := 38) rfl))) (by decide) (t := .int) (t' := .int) (by decide) (by decide)))) (Or.inr (slot_ne (Or.inr (hw _ (List.mem_of_getElem? (i := 10) rfl))) (Or.inl (hw _ (List.mem_of_getElem? (i := 17) rfl))) (by decide) (t := .int) (t' := .boolean) (by decide) (by decide))))
        have f74 := (Fld.other W69 (Fld.other W66 (Fld.other W63 Fw44 (Or.inr (slot_ne (Or.inl (hw _ (List.mem_of_getElem? (i := 26) rfl))) (Or.inl (hw _ (List.mem_of_getElem? (i := 29) rfl))) (by decide) (t := .boolean) (t' := .int) (by decide) (by decide)))) (Or.inr (slot_ne (Or.inl (hw _ (List.mem_of_getElem? (i := 26) rfl))) (Or.inl (hw _ (List.mem_of_getElem? (i := 38) rfl))) (by decide) (t := .boolean) (t' := .int) (by decide) (by decide)))) (Or.inr (slot_ne (Or.inl (hw _ (List.mem_of_getElem? (i := 26) rfl))) (Or.inl (hw _ (List.mem_of_getElem? (i := 17) rfl))) (by decide) (t := .boolean) (t' := .boolean) (by decide) (by decide))))
        have f75 := (Fld.other W69 (Fld.other W66 Fw63 (Or.inr (slot_ne (Or.inl (hw _ (List.mem_of_getElem? (i := 29) rfl))) (Or.inl (hw _ (List.mem_of_getElem? (i := 38) rfl))) (by decide) (t := .int) (t' := .int) (by decide) (by decide)))) (Or.inr (slot_ne (Or.inl (hw _ (List.mem_of_getElem? (i := 29) rfl))) (Or.inl (hw _ (List.mem_of_getElem? (i := 17) rfl))) (by decide) (t := .int) (t' := .boolean) (by decide) (by decide))))
        have f76 := (Fld.other W69 Fw66 (Or.inr (slot_ne (Or.inl (hw _ (List.mem_of_getElem? (i := 38) rfl))) (Or.inl (hw _ (List.mem_of_getElem? (i := 17) rfl))) (by decide) (t := .int) (t' := .boolean) (by decide) (by decide))))
        obtain ⟨fs, hr, hrun, hended, hW, hsame⟩ := X69.leave (v := none) (fun _ => rfl)
        refine ⟨_, _, pre57 _ ?_, hrun, hended, _, _, rfl, ?_, ⟨_, rfl⟩, hW, hsame.mono (by decide) (by decide)⟩
        · show Steps p.tables e below (T56.setTop (mkF m 33 #[.val (.ref a1), .val (.long q2), .second] [(.int (lcmpW q2 (80000 : Int64)))])) _
          refine XS.ifNo X56.here hx rfl (hb hby d4_33) rfl ((if0 _ _).trans (tlt hc58).2.1) ?_
          show Steps p.tables e below (T56.setTop (mkF m 36 #[.val (.ref a1), .val (.long q2), .second] [])) _
          refine XS.aloadN X56.here hx rfl (hb hby d4_36) rfl rfl ?_
          show Steps p.tables e below (T56.setTop (mkF m 37 #[.val (.ref a1), .val (.long q2), .second] [(.ref a1)])) _
          refine XS.sipush X56.here hx rfl (hb hby d4_37) ?_
          show Steps p.tables e below (T56.setTop (mkF m 40 #[.val (.ref a1), .val (.long q2), .second] [(.int (256 : Int32)), (.ref a1)])) _
          refine XS.iconst X56.here hx rfl (hb hby d4_40) ?_
          show Steps p.tables e below (T56.setTop (mkF m 41 #[.val (.ref a1), .val (.long q2), .second] [(.int (1 : Int32)), (.int (256 : Int32)), (.ref a1)])) _
          refine XS.iconst X56.here hx rfl (hb hby d4_41) ?_
          show Steps p.tables e below (T56.setTop (mkF m 42 #[.val (.ref a1), .val (.long q2), .second] [(.int (2 : Int32)), (.int (1 : Int32)), (.int (256 : Int32)), (.ref a1)])) _
          refine XS.aloadN X56.here hx rfl (hb hby d4_42) rfl rfl ?_
          show Steps p.tables e below (T56.setTop (mkF m 43 #[.val (.ref a1), .val (.long q2), .second] [(.ref a1), (.int (2 : Int32)), (.int (1 : Int32)), (.int (256 : Int32)), (.ref a1)])) _
          refine st60 _ ?_
          show Steps p.tables e below (T60.setTop (mkF m 46 #[.val (.ref a1), .val (.long q2), .second] [(.int bo), (.int (2 : Int32)), (.int (1 : Int32)), (.int (256 : Int32)), (.ref a1)])) _
          refine XS.imul X60.here hx rfl (hb hby d4_46) rfl ?_
          show Steps p.tables e below (T60.setTop (mkF m 47 #[.val (.ref a1), .val (.long q2), .second] [(.int ((2 : Int32) * bo)), (.int (1 : Int32)), (.int (256 : Int32)), (.ref a1)])) _
          refine st61 _ ?_
          show Steps p.tables e below (T61.setTop (mkF m 50 #[.val (.ref a1), .val (.long q2), .second] [(.int (maxW (1 : Int32) ((2 : Int32) * bo))), (.int (256 : Int32)), (.ref a1)])) _
          refine st62 _ ?_
          show Steps p.tables e below (T62.setTop (mkF m 53 #[.val (.ref a1), .val (.long q2), .second] [(.int (minW (256 : Int32) (maxW (1 : Int32) ((2 : Int32) * bo)))), (.ref a1)])) _
          refine st63 _ ?_
          show Steps p.tables e below (T63.setTop (mkF m 56 #[.val (.ref a1), .val (.long q2), .second] [])) _
          refine XS.aloadN X63.here hx rfl (hb hby d4_56) rfl rfl ?_
          show Steps p.tables e below (T63.setTop (mkF m 57 #[.val (.ref a1), .val (.long q2), .second] [(.ref a1)])) _
          refine XS.aloadN X63.here hx rfl (hb hby d4_57) rfl rfl ?_
          show Steps p.tables e below (T63.setTop (mkF m 58 #[.val (.ref a1), .val (.long q2), .second] [(.ref a1), (.ref a1)])) _
          refine st65 _ ?_
          show Steps p.tables e below (T65.setTop (mkF m 61 #[.val (.ref a1), .val (.long q2), .second] [(.int (minW (256 : Int32) (maxW (1 : Int32) ((2 : Int32) * bo)))), (.ref a1)])) _
          refine st66 _ ?_
          show Steps p.tables e below (T66.setTop (mkF m 64 #[.val (.ref a1), .val (.long q2), .second] [])) _
          refine XS.aloadN X66.here hx rfl (hb hby d4_64) rfl rfl ?_
          show Steps p.tables e below (T66.setTop (mkF m 65 #[.val (.ref a1), .val (.long q2), .second] [(.ref a1)])) _
          refine XS.iconst X66.here hx rfl (hb hby d4_65) ?_
          show Steps p.tables e below (T66.setTop (mkF m 66 #[.val (.ref a1), .val (.long q2), .second] [(.int (0 : Int32)), (.ref a1)])) _
          refine st69 _ ?_
          show Steps p.tables e below (T69.setTop (mkF m 69 #[.val (.ref a1), .val (.long q2), .second] [])) _
          exact X69.returnOut hx Bd.returns (hb hby d4_69) hr
        · show Q_rmW Z a1 q2 pr wb gu bo un pr' wb' gu' bo' un' h0 n0 _ T69.heap _
          rw [e69]
          exact ⟨rfl, N69, K69, f72, (by rw [← h_pr]; exact f73), (by rw [← h_wb]; simp only [wbF, boF, unF, if_neg hc3, if_neg hc48, if_pos hc58]; exact f74), (by rw [← h_gu]; exact Fw69), (by rw [← h_bo]; simp only [wbF, boF, unF, if_neg hc3, if_neg hc48, if_pos hc58]; exact f75), (by rw [← h_un]; simp only [wbF, boF, unF, if_neg hc3, if_neg hc48, if_pos hc58]; exact f76)⟩
      · have f78 := (Exa.wr W44 E_a1)
        obtain ⟨T77, h77, X77, e77, W77, st77⟩ := putFN X56 hx hZ hown (hw _ (List.mem_of_getElem? (i := 16) rfl)) Via.refl e56 f45 f78 (Or.inl (hw _ (List.mem_of_getElem? (i := 17) rfl))) (hw _ (List.mem_of_getElem? (i := 1) rfl)) (ty := .boolean) (v' := (.int (0 : Int32))) (by decide) rfl (fits_nar_bool (0 : Int32)) (g := (mkF m 66 #[.val (.ref a1), .val (.long q2), .second] [(.int (0 : Int32)), (.ref a1)])) rfl rfl (hb hby d4_66)
        have Fw77 : Fld Z h77 a1 "com/example/bouncer/bouncer/http/Polling" "gaveUp" "Z" (.int (0 : Int32)) := f45.same W77
        have K77 : Keep h0 h77 [a1] := (K44).wr W77 (Or.inl (List.mem_of_getElem? (i := 0) rfl))
        have N77 := Fr.snoc X77 N44 g_a1
        have f79 := (Exa.wr W77 f78)
        have f80 := (Fld.other W77 (Fld.other W44 F_processors (Or.inr (slot_ne (Or.inr (hw _ (List.mem_of_getElem? (i := 10) rfl))) (Or.inl (hw _ (List.mem_of_getElem? (i := 26) rfl))) (by decide) (t := .int) (t' := .boolean) (by decide) (by decide)))) (Or.inr (slot_ne (Or.inr (hw _ (List.mem_of_getElem? (i := 10) rfl))) (Or.inl (hw _ (List.mem_of_getElem? (i := 17) rfl))) (by decide) (t := .int) (t' := .boolean) (by decide) (by decide))))
        have f81 := (Fld.other W77 Fw44 (Or.inr (slot_ne (Or.inl (hw _ (List.mem_of_getElem? (i := 26) rfl))) (Or.inl (hw _ (List.mem_of_getElem? (i := 17) rfl))) (by decide) (t := .boolean) (t' := .boolean) (by decide) (by decide))))
        have f82 := (Fld.other W77 (Fld.other W44 F_backoff (Or.inr (slot_ne (Or.inl (hw _ (List.mem_of_getElem? (i := 29) rfl))) (Or.inl (hw _ (List.mem_of_getElem? (i := 26) rfl))) (by decide) (t := .int) (t' := .boolean) (by decide) (by decide)))) (Or.inr (slot_ne (Or.inl (hw _ (List.mem_of_getElem? (i := 29) rfl))) (Or.inl (hw _ (List.mem_of_getElem? (i := 17) rfl))) (by decide) (t := .int) (t' := .boolean) (by decide) (by decide))))
        have f83 := (Fld.other W77 (Fld.other W44 F_unpolled (Or.inr (slot_ne (Or.inl (hw _ (List.mem_of_getElem? (i := 38) rfl))) (Or.inl (hw _ (List.mem_of_getElem? (i := 26) rfl))) (by decide) (t := .int) (t' := .boolean) (by decide) (by decide)))) (Or.inr (slot_ne (Or.inl (hw _ (List.mem_of_getElem? (i := 38) rfl))) (Or.inl (hw _ (List.mem_of_getElem? (i := 17) rfl))) (by decide) (t := .int) (t' := .boolean) (by decide) (by decide))))
        obtain ⟨fs, hr, hrun, hended, hW, hsame⟩ := X77.leave (v := none) (fun _ => rfl)
        refine ⟨_, _, pre57 _ ?_, hrun, hended, _, _, rfl, ?_, ⟨_, rfl⟩, hW, hsame.mono (by decide) (by decide)⟩
        · show Steps p.tables e below (T56.setTop (mkF m 33 #[.val (.ref a1), .val (.long q2), .second] [(.int (lcmpW q2 (80000 : Int64)))])) _
          refine XS.ifYes X56.here hx rfl (pc0 := 33) (pc' := 64) rfl (hb hby d4_33) rfl ((if0 _ _).trans (flt hc58).2.1) (by decide) (by decide) ?_
          show Steps p.tables e below (T56.setTop (mkF m 64 #[.val (.ref a1), .val (.long q2), .second] [])) _
          refine XS.aloadN X56.here hx rfl (hb hby d4_64) rfl rfl ?_
          show Steps p.tables e below (T56.setTop (mkF m 65 #[.val (.ref a1), .val (.long q2), .second] [(.ref a1)])) _
          refine XS.iconst X56.here hx rfl (hb hby d4_65) ?_
          show Steps p.tables e below (T56.setTop (mkF m 66 #[.val (.ref a1), .val (.long q2), .second] [(.int (0 : Int32)), (.ref a1)])) _
          refine st77 _ ?_
          show Steps p.tables e below (T77.setTop (mkF m 69 #[.val (.ref a1), .val (.long q2), .second] [])) _
          exact X77.returnOut hx Bd.returns (hb hby d4_69) hr
        · show Q_rmW Z a1 q2 pr wb gu bo un pr' wb' gu' bo' un' h0 n0 _ T77.heap _
          rw [e77]
          exact ⟨rfl, N77, K77, f79, (by rw [← h_pr]; exact f80), (by rw [← h_wb]; simp only [wbF, boF, unF, if_neg hc3, if_neg hc48, if_neg hc58]; exact f81), (by rw [← h_gu]; exact Fw77), (by rw [← h_bo]; simp only [wbF, boF, unF, if_neg hc3, if_neg hc48, if_neg hc58]; exact f82), (by rw [← h_un]; simp only [wbF, boF, unF, if_neg hc3, if_neg hc48, if_neg hc58]; exact f83)⟩
theorem d7_0 : decode prog_44_method_2_code 0 = .ok (.aload_n 0, 1) := by decide +kernel
theorem d7_1 : decode prog_44_method_2_code 1 = .ok (.getfield 13, 3) := by decide +kernel
theorem d7_4 : decode prog_44_method_2_code 4 = .ok (.ifCond .eq 23, 3) := by decide +kernel
theorem d7_7 : decode prog_44_method_2_code 7 = .ok (.aload_n 0, 1) := by decide +kernel
theorem d7_8 : decode prog_44_method_2_code 8 = .ok (.getfield 7, 3) := by decide +kernel
theorem d7_11 : decode prog_44_method_2_code 11 = .ok (.iconst 1, 1) := by decide +kernel
theorem d7_12 : decode prog_44_method_2_code 12 = .ok (.if_icmp .le 15, 3) := by decide +kernel
theorem d7_15 : decode prog_44_method_2_code 15 = .ok (.iload_n 1, 1) := by decide +kernel
theorem d7_16 : decode prog_44_method_2_code 16 = .ok (.aload_n 0, 1) := by decide +kernel
theorem d7_17 : decode prog_44_method_2_code 17 = .ok (.getfield 7, 3) := by decide +kernel
theorem d7_20 : decode prog_44_method_2_code 20 = .ok (.if_icmp .ge 7, 3) := by decide +kernel
theorem d7_23 : decode prog_44_method_2_code 23 = .ok (.iconst 1, 1) := by decide +kernel
theorem d7_24 : decode prog_44_method_2_code 24 = .ok (.goto 4, 3) := by decide +kernel
theorem d7_27 : decode prog_44_method_2_code 27 = .ok (.iconst 0, 1) := by decide +kernel
theorem d7_28 : decode prog_44_method_2_code 28 = .ok (.istore_n 2, 1) := by decide +kernel
theorem d7_29 : decode prog_44_method_2_code 29 = .ok (.iload_n 2, 1) := by decide +kernel
theorem d7_30 : decode prog_44_method_2_code 30 = .ok (.ifCond .eq 22, 3) := by decide +kernel
theorem d7_33 : decode prog_44_method_2_code 33 = .ok (.aload_n 0, 1) := by decide +kernel
theorem d7_34 : decode prog_44_method_2_code 34 = .ok (.getfield 17, 3) := by decide +kernel
theorem d7_37 : decode prog_44_method_2_code 37 = .ok (.ifCond .le 15, 3) := by decide +kernel
theorem d7_40 : decode prog_44_method_2_code 40 = .ok (.aload_n 0, 1) := by decide +kernel
theorem d7_41 : decode prog_44_method_2_code 41 = .ok (.dup, 1) := by decide +kernel
theorem d7_42 : decode prog_44_method_2_code 42 = .ok (.getfield 17, 3) := by decide +kernel
theorem d7_45 : decode prog_44_method_2_code 45 = .ok (.iconst 1, 1) := by decide +kernel
theorem d7_46 : decode prog_44_method_2_code 46 = .ok (.isub, 1) := by decide +kernel
theorem d7_47 : decode prog_44_method_2_code 47 = .ok (.putfield 17, 3) := by decide +kernel
theorem d7_50 : decode prog_44_method_2_code 50 = .ok (.iconst 0, 1) := by decide +kernel
theorem d7_51 : decode prog_44_method_2_code 51 = .ok (.istore_n 2, 1) := by decide +kernel
theorem d7_52 : decode prog_44_method_2_code 52 = .ok (.iload_n 2, 1) := by decide +kernel
theorem d7_53 : decode prog_44_method_2_code 53 = .ok (.ireturn, 1) := by decide +kernel
theorem pn_rmN : plainName "com/example/bouncer/bouncer/http/Polling" = true := by first | (simp [plainName, overriddenIn]; done) | decide +kernel
theorem ef_rmN (m : MethodId) (a1 : Addr) (p2 : Int32) : entryFrame m #[(.ref a1), (.int p2)] 3 = mkF m 0 #[.val (.ref a1), .val (.int p2), .unset] [] := by first | (simp [entryFrame, mkF, argsToLocals, Value.category]; done) | rfl
def Q_rmN (Z : State) (a1 : Addr) (p2 : Int32) (pr : Int32) (wb : Int32) (gu : Int32) (bo : Int32) (un : Int32) (pr' : Int32) (wb' : Int32) (gu' : Int32) (bo' : Int32) (un' : Int32) (r : Int32) (h0 : Heap) (n0 : Nat) (v : Option Value) (h : Heap) (L : List Loc) : Prop := v = some (.int r) ∧ Fr n0 L ∧ Keep h0 h [a1] ∧ Exa Z h a1 "com/example/bouncer/bouncer/http/Polling" ∧ Fld Z h a1 "com/example/bouncer/bouncer/http/Polling" "processors" "I" (.int pr') ∧ Fld Z h a1 "com/example/bouncer/bouncer/http/Polling" "waitedBriefly" "Z" (.int wb') ∧ Fld Z h a1 "com/example/bouncer/bouncer/http/Polling" "gaveUp" "Z" (.int gu') ∧ Fld Z h a1 "com/example/bouncer/bouncer/http/Polling" "backoff" "I" (.int bo') ∧ Fld Z h a1 "com/example/bouncer/bouncer/http/Polling" "unpolled" "I" (.int un')
set_option maxRecDepth 65536 in
set_option maxHeartbeats 40000000 in
theorem rmN (l : Launch) (Z : State) (a0 : Array Value) (hw : ∀ d ∈ tables_1, d.before a0 Z = true) (ws : List Jvm.Cond) (a1 : Addr) (p2 : Int32) (pr : Int32) (wb : Int32) (gu : Int32) (bo : Int32) (un : Int32) (pr' : Int32) (wb' : Int32) (gu' : Int32) (bo' : Int32) (un' : Int32) (r : Int32) (h0 : Heap) (n0 : Nat) (Z0 : n0 ≤ h0.size) (E_a1 : Exa Z h0 a1 "com/example/bouncer/bouncer/http/Polling") (F_processors : Fld Z h0 a1 "com/example/bouncer/bouncer/http/Polling" "processors" "I" (.int pr)) (F_waitedBriefly : Fld Z h0 a1 "com/example/bouncer/bouncer/http/Polling" "waitedBriefly" "Z" (.int wb)) (F_gaveUp : Fld Z h0 a1 "com/example/bouncer/bouncer/http/Polling" "gaveUp" "Z" (.int gu)) (F_backoff : Fld Z h0 a1 "com/example/bouncer/bouncer/http/Polling" "backoff" "I" (.int bo)) (F_unpolled : Fld Z h0 a1 "com/example/bouncer/bouncer/http/Polling" "unpolled" "I" (.int un)) (g_a1 : n0 ≤ a1) (hret : plF pr wb un p2 = r) (h_pr : pr = pr') (h_wb : wb = wb') (h_gu : gu = gu') (h_bo : bo = bo') (h_un : unP pr wb un p2 = un') :
    MetFree l (⟨"com/example/bouncer/bouncer/http/Polling", "pollsNext", "(I)Z"⟩ : MethodName) (head1 (Jvm.Cond.code (⟨"com/example/bouncer/bouncer/http/Polling", "pollsNext", "(I)Z"⟩ : MethodName) prog_44_method_2_code 3 (some .boolean) :: ws) ({ frames := 0, cells := 0, slots := 0, locals := 0 } : Room)) (fun a U => a = #[(.ref a1), (.int p2)] ∧ Z.Warmed39 U.vm ∧ U.heap = h0) (fun _ _ _ _ _ => True) (fun _ U o U' => ∃ v L, o = .returned v ∧ Q_rmN Z a1 p2 pr wb gu bo un pr' wb' gu' bo' un' r h0 n0 v U'.heap L ∧ FrameEnd U o U' L ({ frames := 0, cells := 0, slots := 0, locals := 0 } : Room).cells ({ frames := 0, cells := 0, slots := 0, locals := 0 } : Room).slots) := by
  refine MetFree.of_bodySF (plainFor_of_name pn_rmN) hisR ?_
  intro p e s m args below meth c s₁ Bd hml0 hP hK
  obtain ⟨rfl, hZ, hh⟩ := hP
  have hx := Bd.exec
  have hby := Bd.bytes
  have hml : c.maxLocals = 3 := hml0
  have hown : s.vm.findClass "com/example/bouncer/bouncer/http/Polling" = some m.cls := findClass_of_methodNamed Bd.named
  have hnm := (name_of_methodNamed Bd.named Bd.method).1
  have X0 : Stand p l e ({ frames := 0, cells := 0, slots := 0, locals := 0 } : Room) s m #[(.ref a1), (.int p2)] below meth c s₁ [] 0 0 := Stand.of_body Bd
  have e0 : s₁.heap = h0 := by rw [← hh, Bd.state]; rfl
  have N0 := Fr.nil n0
  have pre0 : ∀ t, Steps p.tables e below (s₁.setTop (mkF m 0 #[.val (.ref a1), .val (.int p2), .unset] [])) t → Steps p.tables e below (s₁.setTop (entryFrame m #[(.ref a1), (.int p2)] 3)) t := fun t k => castTop (ef_rmN m a1 p2) k
  obtain ⟨T1, X1, e1, st1⟩ := getF X0 hx hZ hown (host := "") (Or.inl (hw _ (List.mem_of_getElem? (i := 25) rfl))) Via.refl e0 F_waitedBriefly (g := (mkF m 1 #[.val (.ref a1), .val (.int p2), .unset] [(.ref a1)])) rfl rfl (hb hby d7_1)
  have pre2 : ∀ t, Steps p.tables e below (T1.setTop (mkF m 4 #[.val (.ref a1), .val (.int p2), .unset] [(.int wb)])) t → Steps p.tables e below (s₁.setTop (entryFrame m #[(.ref a1), (.int p2)] 3)) t := fun t k => pre0 t (by
      show Steps p.tables e below (s₁.setTop (mkF m 0 #[.val (.ref a1), .val (.int p2), .unset] [])) _
      refine XS.aloadN X0.here hx rfl (hb hby d7_0) rfl rfl ?_
      show Steps p.tables e below (s₁.setTop (mkF m 1 #[.val (.ref a1), .val (.int p2), .unset] [(.ref a1)])) _
      refine st1 _ ?_
      exact k)
  by_cases hc3 : wb = (0 : Int32)
  · obtain ⟨fs, hr, hrun, hended, hW, hsame⟩ := X1.leave (v := some (.int (0 : Int32))) (fun h => by rw [Bd.returns] at h; cases h)
    refine ⟨_, _, pre2 _ ?_, hrun, hended, _, _, rfl, ?_, ⟨_, rfl⟩, hW, hsame.mono (by decide) (by decide)⟩
    · show Steps p.tables e below (T1.setTop (mkF m 4 #[.val (.ref a1), .val (.int p2), .unset] [(.int wb)])) _
      refine XS.ifYes X1.here hx rfl (pc0 := 4) (pc' := 27) rfl (hb hby d7_4) rfl ((if0 _ _).trans (teq hc3).1) (by decide) (by decide) ?_
      show Steps p.tables e below (T1.setTop (mkF m 27 #[.val (.ref a1), .val (.int p2), .unset] [])) _
      refine XS.iconst X1.here hx rfl (hb hby d7_27) ?_
      show Steps p.tables e below (T1.setTop (mkF m 28 #[.val (.ref a1), .val (.int p2), .unset] [(.int (0 : Int32))])) _
      refine XS.istoreN X1.here hx rfl (hb hby d7_28) rfl (l' := #[.val (.ref a1), .val (.int p2), .val (.int (0 : Int32))]) rfl ?_
      show Steps p.tables e below (T1.setTop (mkF m 29 #[.val (.ref a1), .val (.int p2), .val (.int (0 : Int32))] [])) _
      refine XS.iloadN X1.here hx rfl (hb hby d7_29) rfl ?_
      show Steps p.tables e below (T1.setTop (mkF m 30 #[.val (.ref a1), .val (.int p2), .val (.int (0 : Int32))] [(.int (0 : Int32))])) _
      refine XS.ifYes X1.here hx rfl (pc0 := 30) (pc' := 52) rfl (hb hby d7_30) rfl ((if0 _ _).trans (teq (rfl : (0 : Int32) = (0 : Int32))).1) (by decide) (by decide) ?_
      show Steps p.tables e below (T1.setTop (mkF m 52 #[.val (.ref a1), .val (.int p2), .val (.int (0 : Int32))] [])) _
      refine XS.iloadN X1.here hx rfl (hb hby d7_52) rfl ?_
      show Steps p.tables e below (T1.setTop (mkF m 53 #[.val (.ref a1), .val (.int p2), .val (.int (0 : Int32))] [(.int (0 : Int32))])) _
      exact retN X1 hx (t := .boolean) Bd.returns (by simp) (hb hby d7_53) hr
    · show Q_rmN Z a1 p2 pr wb gu bo un pr' wb' gu' bo' un' r h0 n0 _ T1.heap _
      rw [e1]
      exact ⟨by rw [← hret]; simp only [plF, if_pos hc3], N0, Keep.refl _ _, E_a1, (by rw [← h_pr]; exact F_processors), (by rw [← h_wb]; exact F_waitedBriefly), (by rw [← h_gu]; exact F_gaveUp), (by rw [← h_bo]; exact F_backoff), (by rw [← h_un]; simp only [unP, if_pos hc3]; exact F_unpolled)⟩
  · obtain ⟨T4, X4, e4, st4⟩ := getF X1 hx hZ hown (host := "") (Or.inl (hw _ (List.mem_of_getElem? (i := 9) rfl))) Via.refl e1 F_processors (g := (mkF m 8 #[.val (.ref a1), .val (.int p2), .unset] [(.ref a1)])) rfl rfl (hb hby d7_8)
    have pre5 : ∀ t, Steps p.tables e below (T4.setTop (mkF m 12 #[.val (.ref a1), .val (.int p2), .unset] [(.int (1 : Int32)), (.int pr)])) t → Steps p.tables e below (s₁.setTop (entryFrame m #[(.ref a1), (.int p2)] 3)) t := fun t k => pre2 t (by
        show Steps p.tables e below (T1.setTop (mkF m 4 #[.val (.ref a1), .val (.int p2), .unset] [(.int wb)])) _
        refine XS.ifNo X1.here hx rfl (hb hby d7_4) rfl ((if0 _ _).trans (feq hc3).1) ?_
        show Steps p.tables e below (T1.setTop (mkF m 7 #[.val (.ref a1), .val (.int p2), .unset] [])) _
        refine XS.aloadN X1.here hx rfl (hb hby d7_7) rfl rfl ?_
        show Steps p.tables e below (T1.setTop (mkF m 8 #[.val (.ref a1), .val (.int p2), .unset] [(.ref a1)])) _
        refine st4 _ ?_
        show Steps p.tables e below (T4.setTop (mkF m 11 #[.val (.ref a1), .val (.int p2), .unset] [(.int pr)])) _
        refine XS.iconst X4.here hx rfl (hb hby d7_11) ?_
        exact k)
    by_cases hc6 : (1 : Int32) < pr
    · obtain ⟨T7, X7, e7, st7⟩ := getF X4 hx hZ hown (host := "") (Or.inl (hw _ (List.mem_of_getElem? (i := 9) rfl))) Via.refl e4 F_processors (g := (mkF m 17 #[.val (.ref a1), .val (.int p2), .unset] [(.ref a1), (.int p2)])) rfl rfl (hb hby d7_17)
      have pre8 : ∀ t, Steps p.tables e below (T7.setTop (mkF m 20 #[.val (.ref a1), .val (.int p2), .unset] [(.int pr), (.int p2)])) t → Steps p.tables e below (s₁.setTop (entryFrame m #[(.ref a1), (.int p2)] 3)) t := fun t k => pre5 t (by
          show Steps p.tables e below (T4.setTop (mkF m 12 #[.val (.ref a1), .val (.int p2), .unset] [(.int (1 : Int32)), (.int pr)])) _
          refine XS.icmpNo X4.here hx rfl (hb hby d7_12) rfl (tlt hc6).2.2.2 ?_
          show Steps p.tables e below (T4.setTop (mkF m 15 #[.val (.ref a1), .val (.int p2), .unset] [])) _
          refine XS.iloadN X4.here hx rfl (hb hby d7_15) rfl ?_
          show Steps p.tables e below (T4.setTop (mkF m 16 #[.val (.ref a1), .val (.int p2), .unset] [(.int p2)])) _
          refine XS.aloadN X4.here hx rfl (hb hby d7_16) rfl rfl ?_
          show Steps p.tables e below (T4.setTop (mkF m 17 #[.val (.ref a1), .val (.int p2), .unset] [(.ref a1), (.int p2)])) _
          refine st7 _ ?_
          exact k)
      by_cases hc9 : p2 < pr
      · obtain ⟨T10, X10, e10, st10⟩ := getF X7 hx hZ hown (host := "") (Or.inl (hw _ (List.mem_of_getElem? (i := 37) rfl))) Via.refl e7 F_unpolled (g := (mkF m 34 #[.val (.ref a1), .val (.int p2), .val (.int (1 : Int32))] [(.ref a1)])) rfl rfl (hb hby d7_34)
        have pre11 : ∀ t, Steps p.tables e below (T10.setTop (mkF m 37 #[.val (.ref a1), .val (.int p2), .val (.int (1 : Int32))] [(.int un)])) t → Steps p.tables e below (s₁.setTop (entryFrame m #[(.ref a1), (.int p2)] 3)) t := fun t k => pre8 t (by
            show Steps p.tables e below (T7.setTop (mkF m 20 #[.val (.ref a1), .val (.int p2), .unset] [(.int pr), (.int p2)])) _
            refine XS.icmpNo X7.here hx rfl (hb hby d7_20) rfl (tlt hc9).2.1 ?_
            show Steps p.tables e below (T7.setTop (mkF m 23 #[.val (.ref a1), .val (.int p2), .unset] [])) _
            refine XS.iconst X7.here hx rfl (hb hby d7_23) ?_
            show Steps p.tables e below (T7.setTop (mkF m 24 #[.val (.ref a1), .val (.int p2), .unset] [(.int (1 : Int32))])) _
            refine XS.goto X7.here hx rfl (pc0 := 24) (pc' := 28) rfl (hb hby d7_24) (by decide) (by decide) ?_
            show Steps p.tables e below (T7.setTop (mkF m 28 #[.val (.ref a1), .val (.int p2), .unset] [(.int (1 : Int32))])) _
            refine XS.istoreN X7.here hx rfl (hb hby d7_28) rfl (l' := #[.val (.ref a1), .val (.int p2), .val (.int (1 : Int32))]) rfl ?_
            show Steps p.tables e below (T7.setTop (mkF m 29 #[.val (.ref a1), .val (.int p2), .val (.int (1 : Int32))] [])) _
            refine XS.iloadN X7.here hx rfl (hb hby d7_29) rfl ?_
            show Steps p.tables e below (T7.setTop (mkF m 30 #[.val (.ref a1), .val (.int p2), .val (.int (1 : Int32))] [(.int (1 : Int32))])) _
            refine XS.ifNo X7.here hx rfl (hb hby d7_30) rfl ((if0 _ _).trans (feq (by decide : ¬ ((1 : Int32) = (0 : Int32)))).1) ?_
            show Steps p.tables e below (T7.setTop (mkF m 33 #[.val (.ref a1), .val (.int p2), .val (.int (1 : Int32))] [])) _
            refine XS.aloadN X7.here hx rfl (hb hby d7_33) rfl rfl ?_
            show Steps p.tables e below (T7.setTop (mkF m 34 #[.val (.ref a1), .val (.int p2), .val (.int (1 : Int32))] [(.ref a1)])) _
            refine st10 _ ?_
            exact k)
        by_cases hc12 : (0 : Int32) < un
        · obtain ⟨T13, X13, e13, st13⟩ := getF X10 hx hZ hown (host := "") (Or.inl (hw _ (List.mem_of_getElem? (i := 37) rfl))) Via.refl e10 F_unpolled (g := (mkF m 42 #[.val (.ref a1), .val (.int p2), .val (.int (1 : Int32))] [(.ref a1), (.ref a1)])) rfl rfl (hb hby d7_42)
          obtain ⟨T14, h14, X14, e14, W14, st14⟩ := putF X13 hx hZ hown (host := "") (Or.inl (hw _ (List.mem_of_getElem? (i := 37) rfl))) Via.refl e13 F_unpolled E_a1 (Or.inl (hw _ (List.mem_of_getElem? (i := 38) rfl))) (hw _ (List.mem_of_getElem? (i := 1) rfl)) (ty := .int) (by decide) rfl rfl (g := (mkF m 47 #[.val (.ref a1), .val (.int p2), .val (.int (1 : Int32))] [(.int (un - (1 : Int32))), (.ref a1)])) rfl rfl (hb hby d7_47)
          have Fw14 : Fld Z h14 a1 "com/example/bouncer/bouncer/http/Polling" "unpolled" "I" (.int (un - (1 : Int32))) := F_unpolled.same W14
          have K14 : Keep h0 h14 [a1] := ((Keep.refl h0 [a1])).wr W14 (Or.inl (List.mem_of_getElem? (i := 0) rfl))
          have N14 := Fr.snoc X14 N0 g_a1
          have f15 := (Exa.wr W14 E_a1)
          have f16 := (Fld.other W14 F_processors (Or.inr (slot_ne (Or.inr (hw _ (List.mem_of_getElem? (i := 10) rfl))) (Or.inl (hw _ (List.mem_of_getElem? (i := 38) rfl))) (by decide) (t := .int) (t' := .int) (by decide) (by decide))))
          have f17 := (Fld.other W14 F_waitedBriefly (Or.inr (slot_ne (Or.inl (hw _ (List.mem_of_getElem? (i := 26) rfl))) (Or.inl (hw _ (List.mem_of_getElem? (i := 38) rfl))) (by decide) (t := .boolean) (t' := .int) (by decide) (by decide))))
          have f18 := (Fld.other W14 F_gaveUp (Or.inr (slot_ne (Or.inl (hw _ (List.mem_of_getElem? (i := 17) rfl))) (Or.inl (hw _ (List.mem_of_getElem? (i := 38) rfl))) (by decide) (t := .boolean) (t' := .int) (by decide) (by decide))))
          have f19 := (Fld.other W14 F_backoff (Or.inr (slot_ne (Or.inl (hw _ (List.mem_of_getElem? (i := 29) rfl))) (Or.inl (hw _ (List.mem_of_getElem? (i := 38) rfl))) (by decide) (t := .int) (t' := .int) (by decide) (by decide))))
          obtain ⟨fs, hr, hrun, hended, hW, hsame⟩ := X14.leave (v := some (.int (0 : Int32))) (fun h => by rw [Bd.returns] at h; cases h)
          refine ⟨_, _, pre11 _ ?_, hrun, hended, _, _, rfl, ?_, ⟨_, rfl⟩, hW, hsame.mono (by decide) (by decide)⟩
          · show Steps p.tables e below (T10.setTop (mkF m 37 #[.val (.ref a1), .val (.int p2), .val (.int (1 : Int32))] [(.int un)])) _
            refine XS.ifNo X10.here hx rfl (hb hby d7_37) rfl ((if0 _ _).trans (tlt hc12).2.2.2) ?_
            show Steps p.tables e below (T10.setTop (mkF m 40 #[.val (.ref a1), .val (.int p2), .val (.int (1 : Int32))] [])) _
            refine XS.aloadN X10.here hx rfl (hb hby d7_40) rfl rfl ?_
            show Steps p.tables e below (T10.setTop (mkF m 41 #[.val (.ref a1), .val (.int p2), .val (.int (1 : Int32))] [(.ref a1)])) _
            refine XS.dup X10.here hx rfl (hb hby d7_41) rfl rfl ?_
            show Steps p.tables e below (T10.setTop (mkF m 42 #[.val (.ref a1), .val (.int p2), .val (.int (1 : Int32))] [(.ref a1), (.ref a1)])) _
            refine st13 _ ?_
            show Steps p.tables e below (T13.setTop (mkF m 45 #[.val (.ref a1), .val (.int p2), .val (.int (1 : Int32))] [(.int un), (.ref a1)])) _
            refine XS.iconst X13.here hx rfl (hb hby d7_45) ?_
            show Steps p.tables e below (T13.setTop (mkF m 46 #[.val (.ref a1), .val (.int p2), .val (.int (1 : Int32))] [(.int (1 : Int32)), (.int un), (.ref a1)])) _
            refine XS.isub X13.here hx rfl (hb hby d7_46) rfl ?_
            show Steps p.tables e below (T13.setTop (mkF m 47 #[.val (.ref a1), .val (.int p2), .val (.int (1 : Int32))] [(.int (un - (1 : Int32))), (.ref a1)])) _
            refine st14 _ ?_
            show Steps p.tables e below (T14.setTop (mkF m 50 #[.val (.ref a1), .val (.int p2), .val (.int (1 : Int32))] [])) _
            refine XS.iconst X14.here hx rfl (hb hby d7_50) ?_
            show Steps p.tables e below (T14.setTop (mkF m 51 #[.val (.ref a1), .val (.int p2), .val (.int (1 : Int32))] [(.int (0 : Int32))])) _
            refine XS.istoreN X14.here hx rfl (hb hby d7_51) rfl (l' := #[.val (.ref a1), .val (.int p2), .val (.int (0 : Int32))]) rfl ?_
            show Steps p.tables e below (T14.setTop (mkF m 52 #[.val (.ref a1), .val (.int p2), .val (.int (0 : Int32))] [])) _
            refine XS.iloadN X14.here hx rfl (hb hby d7_52) rfl ?_
            show Steps p.tables e below (T14.setTop (mkF m 53 #[.val (.ref a1), .val (.int p2), .val (.int (0 : Int32))] [(.int (0 : Int32))])) _
            exact retN X14 hx (t := .boolean) Bd.returns (by simp) (hb hby d7_53) hr
          · show Q_rmN Z a1 p2 pr wb gu bo un pr' wb' gu' bo' un' r h0 n0 _ T14.heap _
            rw [e14]
            exact ⟨by rw [← hret]; simp only [plF, if_neg hc3, if_pos hc6, if_pos hc9, if_pos hc12], N14, K14, f15, (by rw [← h_pr]; exact f16), (by rw [← h_wb]; exact f17), (by rw [← h_gu]; exact f18), (by rw [← h_bo]; exact f19), (by rw [← h_un]; simp only [unP, if_neg hc3, if_pos hc6, if_pos hc9, if_pos hc12]; exact Fw14)⟩
        · obtain ⟨fs, hr, hrun, hended, hW, hsame⟩ := X10.leave (v := some (.int (1 : Int32))) (fun h => by rw [Bd.returns] at h; cases h)
          refine ⟨_, _, pre11 _ ?_, hrun, hended, _, _, rfl, ?_, ⟨_, rfl⟩, hW, hsame.mono (by decide) (by decide)⟩
          · show Steps p.tables e below (T10.setTop (mkF m 37 #[.val (.ref a1), .val (.int p2), .val (.int (1 : Int32))] [(.int un)])) _
            refine XS.ifYes X10.here hx rfl (pc0 := 37) (pc' := 52) rfl (hb hby d7_37) rfl ((if0 _ _).trans (flt hc12).2.2.2) (by decide) (by decide) ?_
            show Steps p.tables e below (T10.setTop (mkF m 52 #[.val (.ref a1), .val (.int p2), .val (.int (1 : Int32))] [])) _
            refine XS.iloadN X10.here hx rfl (hb hby d7_52) rfl ?_
            show Steps p.tables e below (T10.setTop (mkF m 53 #[.val (.ref a1), .val (.int p2), .val (.int (1 : Int32))] [(.int (1 : Int32))])) _
            exact retN X10 hx (t := .boolean) Bd.returns (by simp) (hb hby d7_53) hr
          · show Q_rmN Z a1 p2 pr wb gu bo un pr' wb' gu' bo' un' r h0 n0 _ T10.heap _
            rw [e10]
            exact ⟨by rw [← hret]; simp only [plF, if_neg hc3, if_pos hc6, if_pos hc9, if_neg hc12], N0, Keep.refl _ _, E_a1, (by rw [← h_pr]; exact F_processors), (by rw [← h_wb]; exact F_waitedBriefly), (by rw [← h_gu]; exact F_gaveUp), (by rw [← h_bo]; exact F_backoff), (by rw [← h_un]; simp only [unP, if_neg hc3, if_pos hc6, if_pos hc9, if_neg hc12]; exact F_unpolled)⟩
      · obtain ⟨fs, hr, hrun, hended, hW, hsame⟩ := X7.leave (v := some (.int (0 : Int32))) (fun h => by rw [Bd.returns] at h; cases h)
        refine ⟨_, _, pre8 _ ?_, hrun, hended, _, _, rfl, ?_, ⟨_, rfl⟩, hW, hsame.mono (by decide) (by decide)⟩
        · show Steps p.tables e below (T7.setTop (mkF m 20 #[.val (.ref a1), .val (.int p2), .unset] [(.int pr), (.int p2)])) _
          refine XS.icmpYes X7.here hx rfl (pc0 := 20) (pc' := 27) rfl (hb hby d7_20) rfl (flt hc9).2.1 (by decide) (by decide) ?_
          show Steps p.tables e below (T7.setTop (mkF m 27 #[.val (.ref a1), .val (.int p2), .unset] [])) _
          refine XS.iconst X7.here hx rfl (hb hby d7_27) ?_
          show Steps p.tables e below (T7.setTop (mkF m 28 #[.val (.ref a1), .val (.int p2), .unset] [(.int (0 : Int32))])) _
          refine XS.istoreN X7.here hx rfl (hb hby d7_28) rfl (l' := #[.val (.ref a1), .val (.int p2), .val (.int (0 : Int32))]) rfl ?_
          show Steps p.tables e below (T7.setTop (mkF m 29 #[.val (.ref a1), .val (.int p2), .val (.int (0 : Int32))] [])) _
          refine XS.iloadN X7.here hx rfl (hb hby d7_29) rfl ?_
          show Steps p.tables e below (T7.setTop (mkF m 30 #[.val (.ref a1), .val (.int p2), .val (.int (0 : Int32))] [(.int (0 : Int32))])) _
          refine XS.ifYes X7.here hx rfl (pc0 := 30) (pc' := 52) rfl (hb hby d7_30) rfl ((if0 _ _).trans (teq (rfl : (0 : Int32) = (0 : Int32))).1) (by decide) (by decide) ?_
          show Steps p.tables e below (T7.setTop (mkF m 52 #[.val (.ref a1), .val (.int p2), .val (.int (0 : Int32))] [])) _
          refine XS.iloadN X7.here hx rfl (hb hby d7_52) rfl ?_
          show Steps p.tables e below (T7.setTop (mkF m 53 #[.val (.ref a1), .val (.int p2), .val (.int (0 : Int32))] [(.int (0 : Int32))])) _
          exact retN X7 hx (t := .boolean) Bd.returns (by simp) (hb hby d7_53) hr
        · show Q_rmN Z a1 p2 pr wb gu bo un pr' wb' gu' bo' un' r h0 n0 _ T7.heap _
          rw [e7]
          exact ⟨by rw [← hret]; simp only [plF, if_neg hc3, if_pos hc6, if_neg hc9], N0, Keep.refl _ _, E_a1, (by rw [← h_pr]; exact F_processors), (by rw [← h_wb]; exact F_waitedBriefly), (by rw [← h_gu]; exact F_gaveUp), (by rw [← h_bo]; exact F_backoff), (by rw [← h_un]; simp only [unP, if_neg hc3, if_pos hc6, if_neg hc9]; exact F_unpolled)⟩
    · obtain ⟨fs, hr, hrun, hended, hW, hsame⟩ := X4.leave (v := some (.int (0 : Int32))) (fun h => by rw [Bd.returns] at h; cases h)
      refine ⟨_, _, pre5 _ ?_, hrun, hended, _, _, rfl, ?_, ⟨_, rfl⟩, hW, hsame.mono (by decide) (by decide)⟩
      · show Steps p.tables e below (T4.setTop (mkF m 12 #[.val (.ref a1), .val (.int p2), .unset] [(.int (1 : Int32)), (.int pr)])) _
        refine XS.icmpYes X4.here hx rfl (pc0 := 12) (pc' := 27) rfl (hb hby d7_12) rfl (flt hc6).2.2.2 (by decide) (by decide) ?_
        show Steps p.tables e below (T4.setTop (mkF m 27 #[.val (.ref a1), .val (.int p2), .unset] [])) _
        refine XS.iconst X4.here hx rfl (hb hby d7_27) ?_
        show Steps p.tables e below (T4.setTop (mkF m 28 #[.val (.ref a1), .val (.int p2), .unset] [(.int (0 : Int32))])) _
        refine XS.istoreN X4.here hx rfl (hb hby d7_28) rfl (l' := #[.val (.ref a1), .val (.int p2), .val (.int (0 : Int32))]) rfl ?_
        show Steps p.tables e below (T4.setTop (mkF m 29 #[.val (.ref a1), .val (.int p2), .val (.int (0 : Int32))] [])) _
        refine XS.iloadN X4.here hx rfl (hb hby d7_29) rfl ?_
        show Steps p.tables e below (T4.setTop (mkF m 30 #[.val (.ref a1), .val (.int p2), .val (.int (0 : Int32))] [(.int (0 : Int32))])) _
        refine XS.ifYes X4.here hx rfl (pc0 := 30) (pc' := 52) rfl (hb hby d7_30) rfl ((if0 _ _).trans (teq (rfl : (0 : Int32) = (0 : Int32))).1) (by decide) (by decide) ?_
        show Steps p.tables e below (T4.setTop (mkF m 52 #[.val (.ref a1), .val (.int p2), .val (.int (0 : Int32))] [])) _
        refine XS.iloadN X4.here hx rfl (hb hby d7_52) rfl ?_
        show Steps p.tables e below (T4.setTop (mkF m 53 #[.val (.ref a1), .val (.int p2), .val (.int (0 : Int32))] [(.int (0 : Int32))])) _
        exact retN X4 hx (t := .boolean) Bd.returns (by simp) (hb hby d7_53) hr
      · show Q_rmN Z a1 p2 pr wb gu bo un pr' wb' gu' bo' un' r h0 n0 _ T4.heap _
        rw [e4]
        exact ⟨by rw [← hret]; simp only [plF, if_neg hc3, if_neg hc6], N0, Keep.refl _ _, E_a1, (by rw [← h_pr]; exact F_processors), (by rw [← h_wb]; exact F_waitedBriefly), (by rw [← h_gu]; exact F_gaveUp), (by rw [← h_bo]; exact F_backoff), (by rw [← h_un]; simp only [unP, if_neg hc3, if_neg hc6]; exact F_unpolled)⟩
theorem pn_rm0 : plainName "com/example/bouncer/bouncer/http/PollingPollsNextPinLaw" = true := by first | (simp [plainName, overriddenIn]; done) | decide +kernel
theorem pd_rm0_0 : parseMethodDescriptor "(I)V" = some ⟨[.int], none⟩ := by decide +kernel
theorem pd_rm0_1 : parseMethodDescriptor "()V" = some ⟨[], none⟩ := by decide +kernel
theorem pd_rm0_2 : parseMethodDescriptor "(J)V" = some ⟨[.long], none⟩ := by decide +kernel
theorem pd_rm0_3 : parseMethodDescriptor "(Z)V" = some ⟨[.boolean], none⟩ := by decide +kernel
theorem pd_rm0_4 : parseMethodDescriptor "(I)Z" = some ⟨[.int], some .boolean⟩ := by decide +kernel
theorem ef_rm0 (m : MethodId) (p1 : Int32) (p2 : Int32) (p3 : Int32) (q4 : Int64) (q5 : Int64) (p6 : Int32) : entryFrame m #[(.int p1), (.int p2), (.int p3), (.long q4), (.long q5), (.int p6)] maxLocals = mkF m 0 #[.val (.int p1), .val (.int p2), .val (.int p3), .val (.long q4), .second, .val (.long q5), .second, .val (.int p6), .unset, .unset, .unset, .unset, .unset, .unset, .unset, .unset, .unset, .unset, .unset, .unset, .unset, .unset, .unset] [] := by first | (simp [entryFrame, mkF, argsToLocals, Value.category, maxLocals]; done) | rfl
def Q_rm0 (Z : State) (p1 : Int32) (p2 : Int32) (p3 : Int32) (q4 : Int64) (q5 : Int64) (p6 : Int32) (h0 : Heap) (n0 : Nat) (v : Option Value) (h : Heap) (L : List Loc) : Prop := v = some (.int (1 : Int32)) ∧ Fr n0 L
set_option maxRecDepth 65536 in
set_option maxHeartbeats 40000000 in
theorem rm0 (l : Launch) (Z : State) (a0 : Array Value) (hw : ∀ d ∈ tables_1, d.before a0 Z = true) (ws : List Jvm.Cond) (p1 : Int32) (p2 : Int32) (p3 : Int32) (q4 : Int64) (q5 : Int64) (p6 : Int32) (h0 : Heap) (n0 : Nat) (Z0 : n0 ≤ h0.size) (S_P : Sta Z h0 "com/example/bouncer/bouncer/http/Polling" "POLL_NANOS" "J" (.long (40000 : Int64))) :
    MetFree l x (head1 (Jvm.Cond.code x code maxLocals ret :: ws) room_1) (fun a U => a = #[(.int p1), (.int p2), (.int p3), (.long q4), (.long q5), (.int p6)] ∧ Z.Warmed39 U.vm ∧ U.heap = h0) (fun _ _ _ _ _ => True) (fun _ U o U' => ∃ v L, o = .returned v ∧ Q_rm0 Z p1 p2 p3 q4 q5 p6 h0 n0 v U'.heap L ∧ FrameEnd U o U' L room_1.cells room_1.slots) := by
  refine MetFree.of_bodySF (plainFor_of_name pn_rm0) hisR ?_
  intro p e s m args below meth c s₁ Bd hml0 hP hK
  obtain ⟨rfl, hZ, hh⟩ := hP
  have hx := Bd.exec
  have hby := Bd.bytes
  have hml : c.maxLocals = 23 := hml0
  have hown : s.vm.findClass "com/example/bouncer/bouncer/http/PollingPollsNextPinLaw" = some m.cls := findClass_of_methodNamed Bd.named
  have hnm := (name_of_methodNamed Bd.named Bd.method).1
  have X0 : Stand p l e room_1 s m #[(.int p1), (.int p2), (.int p3), (.long q4), (.long q5), (.int p6)] below meth c s₁ [] 0 0 := Stand.of_body Bd
  have e0 : s₁.heap = h0 := by rw [← hh, Bd.state]; rfl
  have N0 := Fr.nil n0
  have pre0 : ∀ t, Steps p.tables e below (s₁.setTop (mkF m 0 #[.val (.int p1), .val (.int p2), .val (.int p3), .val (.long q4), .second, .val (.long q5), .second, .val (.int p6), .unset, .unset, .unset, .unset, .unset, .unset, .unset, .unset, .unset, .unset, .unset, .unset, .unset, .unset, .unset] [])) t → Steps p.tables e below (s₁.setTop (entryFrame m #[(.int p1), (.int p2), (.int p3), (.long q4), (.long q5), (.int p6)] maxLocals)) t := fun t k => castTop (ef_rm0 m p1 p2 p3 q4 q5 p6) k
  have pre1 : ∀ t, Steps p.tables e below (s₁.setTop (mkF m 4 #[.val (.int p1), .val (.int p2), .val (.int p3), .val (.long q4), .second, .val (.long q5), .second, .val (.int p6), .unset, .unset, .unset, .unset, .unset, .unset, .unset, .unset, .unset, .unset, .unset, .unset, .unset, .unset, .unset] [(.int (p6 &&& (1 : Int32)))])) t → Steps p.tables e below (s₁.setTop (entryFrame m #[(.int p1), (.int p2), (.int p3), (.long q4), (.long q5), (.int p6)] maxLocals)) t := fun t k => pre0 t (by
      show Steps p.tables e below (s₁.setTop (mkF m 0 #[.val (.int p1), .val (.int p2), .val (.int p3), .val (.long q4), .second, .val (.long q5), .second, .val (.int p6), .unset, .unset, .unset, .unset, .unset, .unset, .unset, .unset, .unset, .unset, .unset, .unset, .unset, .unset, .unset] [])) _
      refine XS.iload X0.here hx rfl (hb hby at_0) rfl ?_
      show Steps p.tables e below (s₁.setTop (mkF m 2 #[.val (.int p1), .val (.int p2), .val (.int p3), .val (.long q4), .second, .val (.long q5), .second, .val (.int p6), .unset, .unset, .unset, .unset, .unset, .unset, .unset, .unset, .unset, .unset, .unset, .unset, .unset, .unset, .unset] [(.int p6)])) _
      refine XS.iconst X0.here hx rfl (hb hby at_2) ?_
      show Steps p.tables e below (s₁.setTop (mkF m 3 #[.val (.int p1), .val (.int p2), .val (.int p3), .val (.long q4), .second, .val (.long q5), .second, .val (.int p6), .unset, .unset, .unset, .unset, .unset, .unset, .unset, .unset, .unset, .unset, .unset, .unset, .unset, .unset, .unset] [(.int (1 : Int32)), (.int p6)])) _
      refine XS.iand X0.here hx rfl (hb hby at_3) rfl ?_
      exact k)
  have pre3 : ∀ t, Steps p.tables e below (s₁.setTop (mkF m 12 #[.val (.int p1), .val (.int p2), .val (.int p3), .val (.long q4), .second, .val (.long q5), .second, .val (.int p6), .unset, .unset, .unset, .unset, .unset, .unset, .unset, .unset, .unset, .unset, .unset, .unset, .unset, .unset, .unset] [(.int (if (p6 &&& (1 : Int32)) = (0 : Int32) then (0 : Int32) else (1 : Int32)))])) t → Steps p.tables e below (s₁.setTop (entryFrame m #[(.int p1), (.int p2), (.int p3), (.long q4), (.long q5), (.int p6)] maxLocals)) t := fun t k => pre1 t (by
      by_cases hc2 : (p6 &&& (1 : Int32)) = (0 : Int32)
      · show Steps p.tables e below (s₁.setTop (mkF m 4 #[.val (.int p1), .val (.int p2), .val (.int p3), .val (.long q4), .second, .val (.long q5), .second, .val (.int p6), .unset, .unset, .unset, .unset, .unset, .unset, .unset, .unset, .unset, .unset, .unset, .unset, .unset, .unset, .unset] [(.int (p6 &&& (1 : Int32)))])) _
        refine XS.ifYes X0.here hx rfl (pc0 := 4) (pc' := 11) rfl (hb hby at_4) rfl ((if0 _ _).trans (teq hc2).1) (by decide) (by decide) ?_
        show Steps p.tables e below (s₁.setTop (mkF m 11 #[.val (.int p1), .val (.int p2), .val (.int p3), .val (.long q4), .second, .val (.long q5), .second, .val (.int p6), .unset, .unset, .unset, .unset, .unset, .unset, .unset, .unset, .unset, .unset, .unset, .unset, .unset, .unset, .unset] [])) _
        refine XS.iconst X0.here hx rfl (hb hby at_11) ?_
        simp only [if_pos hc2] at k
        exact k
      · show Steps p.tables e below (s₁.setTop (mkF m 4 #[.val (.int p1), .val (.int p2), .val (.int p3), .val (.long q4), .second, .val (.long q5), .second, .val (.int p6), .unset, .unset, .unset, .unset, .unset, .unset, .unset, .unset, .unset, .unset, .unset, .unset, .unset, .unset, .unset] [(.int (p6 &&& (1 : Int32)))])) _
        refine XS.ifNo X0.here hx rfl (hb hby at_4) rfl ((if0 _ _).trans (feq hc2).1) ?_
        show Steps p.tables e below (s₁.setTop (mkF m 7 #[.val (.int p1), .val (.int p2), .val (.int p3), .val (.long q4), .second, .val (.long q5), .second, .val (.int p6), .unset, .unset, .unset, .unset, .unset, .unset, .unset, .unset, .unset, .unset, .unset, .unset, .unset, .unset, .unset] [])) _
        refine XS.iconst X0.here hx rfl (hb hby at_7) ?_
        show Steps p.tables e below (s₁.setTop (mkF m 8 #[.val (.int p1), .val (.int p2), .val (.int p3), .val (.long q4), .second, .val (.long q5), .second, .val (.int p6), .unset, .unset, .unset, .unset, .unset, .unset, .unset, .unset, .unset, .unset, .unset, .unset, .unset, .unset, .unset] [(.int (1 : Int32))])) _
        refine XS.goto X0.here hx rfl (pc0 := 8) (pc' := 12) rfl (hb hby at_8) (by decide) (by decide) ?_
        simp only [if_neg hc2] at k
        exact k)
  obtain ⟨f4, hf4⟩ : ∃ z, z = (if (p6 &&& (1 : Int32)) = (0 : Int32) then (0 : Int32) else (1 : Int32)) := ⟨_, rfl⟩
  have pre5 : ∀ t, Steps p.tables e below (s₁.setTop (mkF m 12 #[.val (.int p1), .val (.int p2), .val (.int p3), .val (.long q4), .second, .val (.long q5), .second, .val (.int p6), .unset, .unset, .unset, .unset, .unset, .unset, .unset, .unset, .unset, .unset, .unset, .unset, .unset, .unset, .unset] [(.int f4)])) t → Steps p.tables e below (s₁.setTop (entryFrame m #[(.int p1), (.int p2), (.int p3), (.long q4), (.long q5), (.int p6)] maxLocals)) t := fun t k => pre3 t (by rw [← hf4]; exact k)
  have pre6 : ∀ t, Steps p.tables e below (s₁.setTop (mkF m 18 #[.val (.int p1), .val (.int p2), .val (.int p3), .val (.long q4), .second, .val (.long q5), .second, .val (.int p6), .val (.int f4), .unset, .unset, .unset, .unset, .unset, .unset, .unset, .unset, .unset, .unset, .unset, .unset, .unset, .unset] [(.int (p6 &&& (2 : Int32)))])) t → Steps p.tables e below (s₁.setTop (entryFrame m #[(.int p1), (.int p2), (.int p3), (.long q4), (.long q5), (.int p6)] maxLocals)) t := fun t k => pre5 t (by
      show Steps p.tables e below (s₁.setTop (mkF m 12 #[.val (.int p1), .val (.int p2), .val (.int p3), .val (.long q4), .second, .val (.long q5), .second, .val (.int p6), .unset, .unset, .unset, .unset, .unset, .unset, .unset, .unset, .unset, .unset, .unset, .unset, .unset, .unset, .unset] [(.int f4)])) _
      refine XS.istore X0.here hx rfl (hb hby at_12) rfl (l' := #[.val (.int p1), .val (.int p2), .val (.int p3), .val (.long q4), .second, .val (.long q5), .second, .val (.int p6), .val (.int f4), .unset, .unset, .unset, .unset, .unset, .unset, .unset, .unset, .unset, .unset, .unset, .unset, .unset, .unset]) rfl ?_
      show Steps p.tables e below (s₁.setTop (mkF m 14 #[.val (.int p1), .val (.int p2), .val (.int p3), .val (.long q4), .second, .val (.long q5), .second, .val (.int p6), .val (.int f4), .unset, .unset, .unset, .unset, .unset, .unset, .unset, .unset, .unset, .unset, .unset, .unset, .unset, .unset] [])) _
      refine XS.iload X0.here hx rfl (hb hby at_14) rfl ?_
      show Steps p.tables e below (s₁.setTop (mkF m 16 #[.val (.int p1), .val (.int p2), .val (.int p3), .val (.long q4), .second, .val (.long q5), .second, .val (.int p6), .val (.int f4), .unset, .unset, .unset, .unset, .unset, .unset, .unset, .unset, .unset, .unset, .unset, .unset, .unset, .unset] [(.int p6)])) _
      refine XS.iconst X0.here hx rfl (hb hby at_16) ?_
      show Steps p.tables e below (s₁.setTop (mkF m 17 #[.val (.int p1), .val (.int p2), .val (.int p3), .val (.long q4), .second, .val (.long q5), .second, .val (.int p6), .val (.int f4), .unset, .unset, .unset, .unset, .unset, .unset, .unset, .unset, .unset, .unset, .unset, .unset, .unset, .unset] [(.int (2 : Int32)), (.int p6)])) _
      refine XS.iand X0.here hx rfl (hb hby at_17) rfl ?_
      exact k)
  have pre8 : ∀ t, Steps p.tables e below (s₁.setTop (mkF m 26 #[.val (.int p1), .val (.int p2), .val (.int p3), .val (.long q4), .second, .val (.long q5), .second, .val (.int p6), .val (.int f4), .unset, .unset, .unset, .unset, .unset, .unset, .unset, .unset, .unset, .unset, .unset, .unset, .unset, .unset] [(.int (if (p6 &&& (2 : Int32)) = (0 : Int32) then (0 : Int32) else (1 : Int32)))])) t → Steps p.tables e below (s₁.setTop (entryFrame m #[(.int p1), (.int p2), (.int p3), (.long q4), (.long q5), (.int p6)] maxLocals)) t := fun t k => pre6 t (by
      by_cases hc7 : (p6 &&& (2 : Int32)) = (0 : Int32)
      · show Steps p.tables e below (s₁.setTop (mkF m 18 #[.val (.int p1), .val (.int p2), .val (.int p3), .val (.long q4), .second, .val (.long q5), .second, .val (.int p6), .val (.int f4), .unset, .unset, .unset, .unset, .unset, .unset, .unset, .unset, .unset, .unset, .unset, .unset, .unset, .unset] [(.int (p6 &&& (2 : Int32)))])) _
        refine XS.ifYes X0.here hx rfl (pc0 := 18) (pc' := 25) rfl (hb hby at_18) rfl ((if0 _ _).trans (teq hc7).1) (by decide) (by decide) ?_
        show Steps p.tables e below (s₁.setTop (mkF m 25 #[.val (.int p1), .val (.int p2), .val (.int p3), .val (.long q4), .second, .val (.long q5), .second, .val (.int p6), .val (.int f4), .unset, .unset, .unset, .unset, .unset, .unset, .unset, .unset, .unset, .unset, .unset, .unset, .unset, .unset] [])) _
        refine XS.iconst X0.here hx rfl (hb hby at_25) ?_
        simp only [if_pos hc7] at k
        exact k
      · show Steps p.tables e below (s₁.setTop (mkF m 18 #[.val (.int p1), .val (.int p2), .val (.int p3), .val (.long q4), .second, .val (.long q5), .second, .val (.int p6), .val (.int f4), .unset, .unset, .unset, .unset, .unset, .unset, .unset, .unset, .unset, .unset, .unset, .unset, .unset, .unset] [(.int (p6 &&& (2 : Int32)))])) _
        refine XS.ifNo X0.here hx rfl (hb hby at_18) rfl ((if0 _ _).trans (feq hc7).1) ?_
        show Steps p.tables e below (s₁.setTop (mkF m 21 #[.val (.int p1), .val (.int p2), .val (.int p3), .val (.long q4), .second, .val (.long q5), .second, .val (.int p6), .val (.int f4), .unset, .unset, .unset, .unset, .unset, .unset, .unset, .unset, .unset, .unset, .unset, .unset, .unset, .unset] [])) _
        refine XS.iconst X0.here hx rfl (hb hby at_21) ?_
        show Steps p.tables e below (s₁.setTop (mkF m 22 #[.val (.int p1), .val (.int p2), .val (.int p3), .val (.long q4), .second, .val (.long q5), .second, .val (.int p6), .val (.int f4), .unset, .unset, .unset, .unset, .unset, .unset, .unset, .unset, .unset, .unset, .unset, .unset, .unset, .unset] [(.int (1 : Int32))])) _
        refine XS.goto X0.here hx rfl (pc0 := 22) (pc' := 26) rfl (hb hby at_22) (by decide) (by decide) ?_
        simp only [if_neg hc7] at k
        exact k)
  obtain ⟨f9, hf9⟩ : ∃ z, z = (if (p6 &&& (2 : Int32)) = (0 : Int32) then (0 : Int32) else (1 : Int32)) := ⟨_, rfl⟩
  have pre10 : ∀ t, Steps p.tables e below (s₁.setTop (mkF m 26 #[.val (.int p1), .val (.int p2), .val (.int p3), .val (.long q4), .second, .val (.long q5), .second, .val (.int p6), .val (.int f4), .unset, .unset, .unset, .unset, .unset, .unset, .unset, .unset, .unset, .unset, .unset, .unset, .unset, .unset] [(.int f9)])) t → Steps p.tables e below (s₁.setTop (entryFrame m #[(.int p1), (.int p2), (.int p3), (.long q4), (.long q5), (.int p6)] maxLocals)) t := fun t k => pre8 t (by rw [← hf9]; exact k)
  have pre11 : ∀ t, Steps p.tables e below (s₁.setTop (mkF m 32 #[.val (.int p1), .val (.int p2), .val (.int p3), .val (.long q4), .second, .val (.long q5), .second, .val (.int p6), .val (.int f4), .val (.int f9), .unset, .unset, .unset, .unset, .unset, .unset, .unset, .unset, .unset, .unset, .unset, .unset, .unset] [(.int (p6 &&& (4 : Int32)))])) t → Steps p.tables e below (s₁.setTop (entryFrame m #[(.int p1), (.int p2), (.int p3), (.long q4), (.long q5), (.int p6)] maxLocals)) t := fun t k => pre10 t (by
      show Steps p.tables e below (s₁.setTop (mkF m 26 #[.val (.int p1), .val (.int p2), .val (.int p3), .val (.long q4), .second, .val (.long q5), .second, .val (.int p6), .val (.int f4), .unset, .unset, .unset, .unset, .unset, .unset, .unset, .unset, .unset, .unset, .unset, .unset, .unset, .unset] [(.int f9)])) _
      refine XS.istore X0.here hx rfl (hb hby at_26) rfl (l' := #[.val (.int p1), .val (.int p2), .val (.int p3), .val (.long q4), .second, .val (.long q5), .second, .val (.int p6), .val (.int f4), .val (.int f9), .unset, .unset, .unset, .unset, .unset, .unset, .unset, .unset, .unset, .unset, .unset, .unset, .unset]) rfl ?_
      show Steps p.tables e below (s₁.setTop (mkF m 28 #[.val (.int p1), .val (.int p2), .val (.int p3), .val (.long q4), .second, .val (.long q5), .second, .val (.int p6), .val (.int f4), .val (.int f9), .unset, .unset, .unset, .unset, .unset, .unset, .unset, .unset, .unset, .unset, .unset, .unset, .unset] [])) _
      refine XS.iload X0.here hx rfl (hb hby at_28) rfl ?_
      show Steps p.tables e below (s₁.setTop (mkF m 30 #[.val (.int p1), .val (.int p2), .val (.int p3), .val (.long q4), .second, .val (.long q5), .second, .val (.int p6), .val (.int f4), .val (.int f9), .unset, .unset, .unset, .unset, .unset, .unset, .unset, .unset, .unset, .unset, .unset, .unset, .unset] [(.int p6)])) _
      refine XS.iconst X0.here hx rfl (hb hby at_30) ?_
      show Steps p.tables e below (s₁.setTop (mkF m 31 #[.val (.int p1), .val (.int p2), .val (.int p3), .val (.long q4), .second, .val (.long q5), .second, .val (.int p6), .val (.int f4), .val (.int f9), .unset, .unset, .unset, .unset, .unset, .unset, .unset, .unset, .unset, .unset, .unset, .unset, .unset] [(.int (4 : Int32)), (.int p6)])) _
      refine XS.iand X0.here hx rfl (hb hby at_31) rfl ?_
      exact k)
  have pre13 : ∀ t, Steps p.tables e below (s₁.setTop (mkF m 40 #[.val (.int p1), .val (.int p2), .val (.int p3), .val (.long q4), .second, .val (.long q5), .second, .val (.int p6), .val (.int f4), .val (.int f9), .unset, .unset, .unset, .unset, .unset, .unset, .unset, .unset, .unset, .unset, .unset, .unset, .unset] [(.int (if (p6 &&& (4 : Int32)) = (0 : Int32) then (0 : Int32) else (1 : Int32)))])) t → Steps p.tables e below (s₁.setTop (entryFrame m #[(.int p1), (.int p2), (.int p3), (.long q4), (.long q5), (.int p6)] maxLocals)) t := fun t k => pre11 t (by
      by_cases hc12 : (p6 &&& (4 : Int32)) = (0 : Int32)
      · show Steps p.tables e below (s₁.setTop (mkF m 32 #[.val (.int p1), .val (.int p2), .val (.int p3), .val (.long q4), .second, .val (.long q5), .second, .val (.int p6), .val (.int f4), .val (.int f9), .unset, .unset, .unset, .unset, .unset, .unset, .unset, .unset, .unset, .unset, .unset, .unset, .unset] [(.int (p6 &&& (4 : Int32)))])) _
        refine XS.ifYes X0.here hx rfl (pc0 := 32) (pc' := 39) rfl (hb hby at_32) rfl ((if0 _ _).trans (teq hc12).1) (by decide) (by decide) ?_
        show Steps p.tables e below (s₁.setTop (mkF m 39 #[.val (.int p1), .val (.int p2), .val (.int p3), .val (.long q4), .second, .val (.long q5), .second, .val (.int p6), .val (.int f4), .val (.int f9), .unset, .unset, .unset, .unset, .unset, .unset, .unset, .unset, .unset, .unset, .unset, .unset, .unset] [])) _
        refine XS.iconst X0.here hx rfl (hb hby at_39) ?_
        simp only [if_pos hc12] at k
        exact k
      · show Steps p.tables e below (s₁.setTop (mkF m 32 #[.val (.int p1), .val (.int p2), .val (.int p3), .val (.long q4), .second, .val (.long q5), .second, .val (.int p6), .val (.int f4), .val (.int f9), .unset, .unset, .unset, .unset, .unset, .unset, .unset, .unset, .unset, .unset, .unset, .unset, .unset] [(.int (p6 &&& (4 : Int32)))])) _
        refine XS.ifNo X0.here hx rfl (hb hby at_32) rfl ((if0 _ _).trans (feq hc12).1) ?_
        show Steps p.tables e below (s₁.setTop (mkF m 35 #[.val (.int p1), .val (.int p2), .val (.int p3), .val (.long q4), .second, .val (.long q5), .second, .val (.int p6), .val (.int f4), .val (.int f9), .unset, .unset, .unset, .unset, .unset, .unset, .unset, .unset, .unset, .unset, .unset, .unset, .unset] [])) _
        refine XS.iconst X0.here hx rfl (hb hby at_35) ?_
        show Steps p.tables e below (s₁.setTop (mkF m 36 #[.val (.int p1), .val (.int p2), .val (.int p3), .val (.long q4), .second, .val (.long q5), .second, .val (.int p6), .val (.int f4), .val (.int f9), .unset, .unset, .unset, .unset, .unset, .unset, .unset, .unset, .unset, .unset, .unset, .unset, .unset] [(.int (1 : Int32))])) _
        refine XS.goto X0.here hx rfl (pc0 := 36) (pc' := 40) rfl (hb hby at_36) (by decide) (by decide) ?_
        simp only [if_neg hc12] at k
        exact k)
  obtain ⟨f14, hf14⟩ : ∃ z, z = (if (p6 &&& (4 : Int32)) = (0 : Int32) then (0 : Int32) else (1 : Int32)) := ⟨_, rfl⟩
  have pre15 : ∀ t, Steps p.tables e below (s₁.setTop (mkF m 40 #[.val (.int p1), .val (.int p2), .val (.int p3), .val (.long q4), .second, .val (.long q5), .second, .val (.int p6), .val (.int f4), .val (.int f9), .unset, .unset, .unset, .unset, .unset, .unset, .unset, .unset, .unset, .unset, .unset, .unset, .unset] [(.int f14)])) t → Steps p.tables e below (s₁.setTop (entryFrame m #[(.int p1), (.int p2), (.int p3), (.long q4), (.long q5), (.int p6)] maxLocals)) t := fun t k => pre13 t (by rw [← hf14]; exact k)
  have pre16 : ∀ t, Steps p.tables e below (s₁.setTop (mkF m 47 #[.val (.int p1), .val (.int p2), .val (.int p3), .val (.long q4), .second, .val (.long q5), .second, .val (.int p6), .val (.int f4), .val (.int f9), .val (.int f14), .unset, .unset, .unset, .unset, .unset, .unset, .unset, .unset, .unset, .unset, .unset, .unset] [(.int (p6 &&& (8 : Int32)))])) t → Steps p.tables e below (s₁.setTop (entryFrame m #[(.int p1), (.int p2), (.int p3), (.long q4), (.long q5), (.int p6)] maxLocals)) t := fun t k => pre15 t (by
      show Steps p.tables e below (s₁.setTop (mkF m 40 #[.val (.int p1), .val (.int p2), .val (.int p3), .val (.long q4), .second, .val (.long q5), .second, .val (.int p6), .val (.int f4), .val (.int f9), .unset, .unset, .unset, .unset, .unset, .unset, .unset, .unset, .unset, .unset, .unset, .unset, .unset] [(.int f14)])) _
      refine XS.istore X0.here hx rfl (hb hby at_40) rfl (l' := #[.val (.int p1), .val (.int p2), .val (.int p3), .val (.long q4), .second, .val (.long q5), .second, .val (.int p6), .val (.int f4), .val (.int f9), .val (.int f14), .unset, .unset, .unset, .unset, .unset, .unset, .unset, .unset, .unset, .unset, .unset, .unset]) rfl ?_
      show Steps p.tables e below (s₁.setTop (mkF m 42 #[.val (.int p1), .val (.int p2), .val (.int p3), .val (.long q4), .second, .val (.long q5), .second, .val (.int p6), .val (.int f4), .val (.int f9), .val (.int f14), .unset, .unset, .unset, .unset, .unset, .unset, .unset, .unset, .unset, .unset, .unset, .unset] [])) _
      refine XS.iload X0.here hx rfl (hb hby at_42) rfl ?_
      show Steps p.tables e below (s₁.setTop (mkF m 44 #[.val (.int p1), .val (.int p2), .val (.int p3), .val (.long q4), .second, .val (.long q5), .second, .val (.int p6), .val (.int f4), .val (.int f9), .val (.int f14), .unset, .unset, .unset, .unset, .unset, .unset, .unset, .unset, .unset, .unset, .unset, .unset] [(.int p6)])) _
      refine XS.bipush X0.here hx rfl (hb hby at_44) ?_
      show Steps p.tables e below (s₁.setTop (mkF m 46 #[.val (.int p1), .val (.int p2), .val (.int p3), .val (.long q4), .second, .val (.long q5), .second, .val (.int p6), .val (.int f4), .val (.int f9), .val (.int f14), .unset, .unset, .unset, .unset, .unset, .unset, .unset, .unset, .unset, .unset, .unset, .unset] [(.int (8 : Int32)), (.int p6)])) _
      refine XS.iand X0.here hx rfl (hb hby at_46) rfl ?_
      exact k)
  have pre18 : ∀ t, Steps p.tables e below (s₁.setTop (mkF m 55 #[.val (.int p1), .val (.int p2), .val (.int p3), .val (.long q4), .second, .val (.long q5), .second, .val (.int p6), .val (.int f4), .val (.int f9), .val (.int f14), .unset, .unset, .unset, .unset, .unset, .unset, .unset, .unset, .unset, .unset, .unset, .unset] [(.int (if (p6 &&& (8 : Int32)) = (0 : Int32) then (0 : Int32) else (1 : Int32)))])) t → Steps p.tables e below (s₁.setTop (entryFrame m #[(.int p1), (.int p2), (.int p3), (.long q4), (.long q5), (.int p6)] maxLocals)) t := fun t k => pre16 t (by
      by_cases hc17 : (p6 &&& (8 : Int32)) = (0 : Int32)
      · show Steps p.tables e below (s₁.setTop (mkF m 47 #[.val (.int p1), .val (.int p2), .val (.int p3), .val (.long q4), .second, .val (.long q5), .second, .val (.int p6), .val (.int f4), .val (.int f9), .val (.int f14), .unset, .unset, .unset, .unset, .unset, .unset, .unset, .unset, .unset, .unset, .unset, .unset] [(.int (p6 &&& (8 : Int32)))])) _
        refine XS.ifYes X0.here hx rfl (pc0 := 47) (pc' := 54) rfl (hb hby at_47) rfl ((if0 _ _).trans (teq hc17).1) (by decide) (by decide) ?_
        show Steps p.tables e below (s₁.setTop (mkF m 54 #[.val (.int p1), .val (.int p2), .val (.int p3), .val (.long q4), .second, .val (.long q5), .second, .val (.int p6), .val (.int f4), .val (.int f9), .val (.int f14), .unset, .unset, .unset, .unset, .unset, .unset, .unset, .unset, .unset, .unset, .unset, .unset] [])) _
        refine XS.iconst X0.here hx rfl (hb hby at_54) ?_
        simp only [if_pos hc17] at k
        exact k
      · show Steps p.tables e below (s₁.setTop (mkF m 47 #[.val (.int p1), .val (.int p2), .val (.int p3), .val (.long q4), .second, .val (.long q5), .second, .val (.int p6), .val (.int f4), .val (.int f9), .val (.int f14), .unset, .unset, .unset, .unset, .unset, .unset, .unset, .unset, .unset, .unset, .unset, .unset] [(.int (p6 &&& (8 : Int32)))])) _
        refine XS.ifNo X0.here hx rfl (hb hby at_47) rfl ((if0 _ _).trans (feq hc17).1) ?_
        show Steps p.tables e below (s₁.setTop (mkF m 50 #[.val (.int p1), .val (.int p2), .val (.int p3), .val (.long q4), .second, .val (.long q5), .second, .val (.int p6), .val (.int f4), .val (.int f9), .val (.int f14), .unset, .unset, .unset, .unset, .unset, .unset, .unset, .unset, .unset, .unset, .unset, .unset] [])) _
        refine XS.iconst X0.here hx rfl (hb hby at_50) ?_
        show Steps p.tables e below (s₁.setTop (mkF m 51 #[.val (.int p1), .val (.int p2), .val (.int p3), .val (.long q4), .second, .val (.long q5), .second, .val (.int p6), .val (.int f4), .val (.int f9), .val (.int f14), .unset, .unset, .unset, .unset, .unset, .unset, .unset, .unset, .unset, .unset, .unset, .unset] [(.int (1 : Int32))])) _
        refine XS.goto X0.here hx rfl (pc0 := 51) (pc' := 55) rfl (hb hby at_51) (by decide) (by decide) ?_
        simp only [if_neg hc17] at k
        exact k)
  obtain ⟨f19, hf19⟩ : ∃ z, z = (if (p6 &&& (8 : Int32)) = (0 : Int32) then (0 : Int32) else (1 : Int32)) := ⟨_, rfl⟩
  have pre20 : ∀ t, Steps p.tables e below (s₁.setTop (mkF m 55 #[.val (.int p1), .val (.int p2), .val (.int p3), .val (.long q4), .second, .val (.long q5), .second, .val (.int p6), .val (.int f4), .val (.int f9), .val (.int f14), .unset, .unset, .unset, .unset, .unset, .unset, .unset, .unset, .unset, .unset, .unset, .unset] [(.int f19)])) t → Steps p.tables e below (s₁.setTop (entryFrame m #[(.int p1), (.int p2), (.int p3), (.long q4), (.long q5), (.int p6)] maxLocals)) t := fun t k => pre18 t (by rw [← hf19]; exact k)
  obtain ⟨T21, h21, X21, e21, E21, A21, D21, -, st21⟩ := newO X0 hx hZ hown (hw _ (List.mem_of_getElem? (i := 0) rfl)) (hw _ (List.mem_of_getElem? (i := 1) rfl)) (hw _ (List.mem_of_getElem? (i := 2) rfl)) e0 (g := (mkF m 57 #[.val (.int p1), .val (.int p2), .val (.int p3), .val (.long q4), .second, .val (.long q5), .second, .val (.int p6), .val (.int f4), .val (.int f9), .val (.int f14), .val (.int f19), .unset, .unset, .unset, .unset, .unset, .unset, .unset, .unset, .unset, .unset, .unset] [])) rfl (hb hby at_57) (by decide) (by decide)
  obtain ⟨b21, g21⟩ : ∃ z, z = h0.size := ⟨_, rfl⟩
  rw [← g21] at A21 D21 st21
  have g_b21 : n0 ≤ b21 := Nat.le_trans Z0 (Nat.le_of_eq g21.symm)
  have sz_b21 : h0.size ≤ b21 := Nat.le_trans ((Keep.refl h0 [])).1 (Nat.le_of_eq g21.symm)
  have K21 : Keep h0 h21 [] := ((Keep.refl h0 [])).ext E21
  have F21_processors : Fld Z h21 b21 "com/example/bouncer/bouncer/http/Polling" "processors" "I" (.int (0 : Int32)) := D21 (Or.inr (hw _ (List.mem_of_getElem? (i := 10) rfl))) (ty := .int) (by decide)
  have F21_gaveUp : Fld Z h21 b21 "com/example/bouncer/bouncer/http/Polling" "gaveUp" "Z" (.int (0 : Int32)) := D21 (Or.inl (hw _ (List.mem_of_getElem? (i := 17) rfl))) (ty := .boolean) (by decide)
  have F21_waitedBriefly : Fld Z h21 b21 "com/example/bouncer/bouncer/http/Polling" "waitedBriefly" "Z" (.int (0 : Int32)) := D21 (Or.inl (hw _ (List.mem_of_getElem? (i := 26) rfl))) (ty := .boolean) (by decide)
  have F21_backoff : Fld Z h21 b21 "com/example/bouncer/bouncer/http/Polling" "backoff" "I" (.int (0 : Int32)) := D21 (Or.inl (hw _ (List.mem_of_getElem? (i := 29) rfl))) (ty := .int) (by decide)
  have F21_unpolled : Fld Z h21 b21 "com/example/bouncer/bouncer/http/Polling" "unpolled" "I" (.int (0 : Int32)) := D21 (Or.inl (hw _ (List.mem_of_getElem? (i := 38) rfl))) (ty := .int) (by decide)
  obtain ⟨_, _, ⟨T22, L22, k22, n22⟩, -, X22, ⟨Lc22, hQ22, l22, y22, z22⟩, st22⟩ := X21.specialBack hx (y := (⟨"com/example/bouncer/bouncer/http/Polling", "<init>", "(I)V"⟩ : MethodName)) rfl hown (mvT hZ (hw _ (List.mem_of_getElem? (i := 3) rfl))) (mvT hZ (hw _ (List.mem_of_getElem? (i := 4) rfl))) (mvT hZ (hw _ (List.mem_of_getElem? (i := 5) rfl))) (by decide) (backOf (W := 1) (rmI l Z a0 hw [] b21 p1 (0 : Int32) (0 : Int32) (0 : Int32) (0 : Int32) (0 : Int32) p1 (0 : Int32) (0 : Int32) (0 : Int32) (0 : Int32) h21 n0 (Nat.le_trans Z0 K21.1) A21 F21_processors F21_waitedBriefly F21_gaveUp F21_backoff F21_unpolled g_b21 rfl rfl rfl rfl rfl) hZ (hw _ (List.mem_of_getElem? (i := 5) rfl)) (hw _ (List.mem_of_getElem? (i := 2) rfl)) (by decide) (by decide)) (g := (mkF m 62 #[.val (.int p1), .val (.int p2), .val (.int p3), .val (.long q4), .second, .val (.long q5), .second, .val (.int p6), .val (.int f4), .val (.int f9), .val (.int f14), .val (.int f19), .unset, .unset, .unset, .unset, .unset, .unset, .unset, .unset, .unset, .unset, .unset] [(.int p1), (.ref b21), (.ref b21)])) rfl (by rw [hml]; rfl) (Steps.refl _) (a := b21) (argsL := [(.int p1)]) (rest := [(.ref b21)]) (lenOf pd_rm0_0 rfl) rfl (by show 2 * 0 + _ ≤ _; exact Nat.le_of_eq rfl) (hb hby at_62) (fun _ _ => ⟨rfl, e21, (by decide : 1 + 0 ≤ _), (by decide : 5 + 0 ≤ _)⟩)
  dsimp only [Pt.U, Pt.locs, Pt.cells, Pt.slots] at X22 l22 y22 z22 st22 hQ22
  subst l22 y22 z22
  obtain ⟨rfl, N22q, K22q, A22q, G22_processors, G22_waitedBriefly, G22_gaveUp, G22_backoff, G22_unpolled⟩ := hQ22
  have N22 := Fr.app N0 N22q
  have K22 : Keep h0 T22.heap [] := (K21).trans K22q (allS (Or.inr sz_b21) all0)
  have pre23 : ∀ t, Steps p.tables e below (T22.setTop (mkF m 69 #[.val (.int p1), .val (.int p2), .val (.int p3), .val (.long q4), .second, .val (.long q5), .second, .val (.int p6), .val (.int f4), .val (.int f9), .val (.int f14), .val (.int f19), .val (.ref b21), .unset, .unset, .unset, .unset, .unset, .unset, .unset, .unset, .unset, .unset] [(.int f4)])) t → Steps p.tables e below (s₁.setTop (entryFrame m #[(.int p1), (.int p2), (.int p3), (.long q4), (.long q5), (.int p6)] maxLocals)) t := fun t k => pre20 t (by
      show Steps p.tables e below (s₁.setTop (mkF m 55 #[.val (.int p1), .val (.int p2), .val (.int p3), .val (.long q4), .second, .val (.long q5), .second, .val (.int p6), .val (.int f4), .val (.int f9), .val (.int f14), .unset, .unset, .unset, .unset, .unset, .unset, .unset, .unset, .unset, .unset, .unset, .unset] [(.int f19)])) _
      refine XS.istore X0.here hx rfl (hb hby at_55) rfl (l' := #[.val (.int p1), .val (.int p2), .val (.int p3), .val (.long q4), .second, .val (.long q5), .second, .val (.int p6), .val (.int f4), .val (.int f9), .val (.int f14), .val (.int f19), .unset, .unset, .unset, .unset, .unset, .unset, .unset, .unset, .unset, .unset, .unset]) rfl ?_
      show Steps p.tables e below (s₁.setTop (mkF m 57 #[.val (.int p1), .val (.int p2), .val (.int p3), .val (.long q4), .second, .val (.long q5), .second, .val (.int p6), .val (.int f4), .val (.int f9), .val (.int f14), .val (.int f19), .unset, .unset, .unset, .unset, .unset, .unset, .unset, .unset, .unset, .unset, .unset] [])) _
      refine st21 _ ?_
      show Steps p.tables e below (T21.setTop (mkF m 60 #[.val (.int p1), .val (.int p2), .val (.int p3), .val (.long q4), .second, .val (.long q5), .second, .val (.int p6), .val (.int f4), .val (.int f9), .val (.int f14), .val (.int f19), .unset, .unset, .unset, .unset, .unset, .unset, .unset, .unset, .unset, .unset, .unset] [(.ref b21)])) _
      refine XS.dup X21.here hx rfl (hb hby at_60) rfl rfl ?_
      show Steps p.tables e below (T21.setTop (mkF m 61 #[.val (.int p1), .val (.int p2), .val (.int p3), .val (.long q4), .second, .val (.long q5), .second, .val (.int p6), .val (.int f4), .val (.int f9), .val (.int f14), .val (.int f19), .unset, .unset, .unset, .unset, .unset, .unset, .unset, .unset, .unset, .unset, .unset] [(.ref b21), (.ref b21)])) _
      refine XS.iloadN X21.here hx rfl (hb hby at_61) rfl ?_
      show Steps p.tables e below (T21.setTop (mkF m 62 #[.val (.int p1), .val (.int p2), .val (.int p3), .val (.long q4), .second, .val (.long q5), .second, .val (.int p6), .val (.int f4), .val (.int f9), .val (.int f14), .val (.int f19), .unset, .unset, .unset, .unset, .unset, .unset, .unset, .unset, .unset, .unset, .unset] [(.int p1), (.ref b21), (.ref b21)])) _
      refine st22.trans ?_
      show Steps p.tables e below (T22.setTop (mkF m 65 #[.val (.int p1), .val (.int p2), .val (.int p3), .val (.long q4), .second, .val (.long q5), .second, .val (.int p6), .val (.int f4), .val (.int f9), .val (.int f14), .val (.int f19), .unset, .unset, .unset, .unset, .unset, .unset, .unset, .unset, .unset, .unset, .unset] [(.ref b21)])) _
      refine XS.astore X22.here hx rfl (hb hby at_65) rfl rfl (l' := #[.val (.int p1), .val (.int p2), .val (.int p3), .val (.long q4), .second, .val (.long q5), .second, .val (.int p6), .val (.int f4), .val (.int f9), .val (.int f14), .val (.int f19), .val (.ref b21), .unset, .unset, .unset, .unset, .unset, .unset, .unset, .unset, .unset, .unset]) rfl ?_
      show Steps p.tables e below (T22.setTop (mkF m 67 #[.val (.int p1), .val (.int p2), .val (.int p3), .val (.long q4), .second, .val (.long q5), .second, .val (.int p6), .val (.int f4), .val (.int f9), .val (.int f14), .val (.int f19), .val (.ref b21), .unset, .unset, .unset, .unset, .unset, .unset, .unset, .unset, .unset, .unset] [])) _
      refine XS.iload X22.here hx rfl (hb hby at_67) rfl ?_
      exact k)
  obtain ⟨T24, h24, L24, X24, e24, N24, K24, A24, F24_processors, F24_waitedBriefly, F24_gaveUp, F24_backoff, F24_unpolled, pre24⟩ : ∃ (T' : State) (h' : Heap) (L' : List Loc), Stand p l e room_1 s m #[(.int p1), (.int p2), (.int p3), (.long q4), (.long q5), (.int p6)] below meth c T' L' 1 5 ∧ T'.heap = h' ∧ Fr n0 L' ∧ Keep h0 h' [] ∧ Exa Z h' b21 "com/example/bouncer/bouncer/http/Polling" ∧ Fld Z h' b21 "com/example/bouncer/bouncer/http/Polling" "processors" "I" (.int p1) ∧ Fld Z h' b21 "com/example/bouncer/bouncer/http/Polling" "waitedBriefly" "Z" (.int (0 : Int32)) ∧ Fld Z h' b21 "com/example/bouncer/bouncer/http/Polling" "gaveUp" "Z" (.int (if f4 = (0 : Int32) then (0 : Int32) else (1 : Int32))) ∧ Fld Z h' b21 "com/example/bouncer/bouncer/http/Polling" "backoff" "I" (.int (0 : Int32)) ∧ Fld Z h' b21 "com/example/bouncer/bouncer/http/Polling" "unpolled" "I" (.int (0 : Int32)) ∧ ∀ t, Steps p.tables e below (T'.setTop (mkF m 77 #[.val (.int p1), .val (.int p2), .val (.int p3), .val (.long q4), .second, .val (.long q5), .second, .val (.int p6), .val (.int f4), .val (.int f9), .val (.int f14), .val (.int f19), .val (.ref b21), .unset, .unset, .unset, .unset, .unset, .unset, .unset, .unset, .unset, .unset] [])) t → Steps p.tables e below (s₁.setTop (entryFrame m #[(.int p1), (.int p2), (.int p3), (.long q4), (.long q5), (.int p6)] maxLocals)) t := by
    by_cases hc24 : f4 = (0 : Int32)
    · have pre25 : ∀ t, Steps p.tables e below (T22.setTop (mkF m 77 #[.val (.int p1), .val (.int p2), .val (.int p3), .val (.long q4), .second, .val (.long q5), .second, .val (.int p6), .val (.int f4), .val (.int f9), .val (.int f14), .val (.int f19), .val (.ref b21), .unset, .unset, .unset, .unset, .unset, .unset, .unset, .unset, .unset, .unset] [])) t → Steps p.tables e below (s₁.setTop (entryFrame m #[(.int p1), (.int p2), (.int p3), (.long q4), (.long q5), (.int p6)] maxLocals)) t := fun t k => pre23 t (by
          show Steps p.tables e below (T22.setTop (mkF m 69 #[.val (.int p1), .val (.int p2), .val (.int p3), .val (.long q4), .second, .val (.long q5), .second, .val (.int p6), .val (.int f4), .val (.int f9), .val (.int f14), .val (.int f19), .val (.ref b21), .unset, .unset, .unset, .unset, .unset, .unset, .unset, .unset, .unset, .unset] [(.int f4)])) _
          refine XS.ifYes X22.here hx rfl (pc0 := 69) (pc' := 77) rfl (hb hby at_69) rfl ((if0 _ _).trans (teq hc24).1) (by decide) (by decide) ?_
          exact k)
      exact ⟨T22, T22.heap, _, X22, rfl, N22, K22, A22q, G22_processors, G22_waitedBriefly, (by rw [if_pos hc24]; exact G22_gaveUp), G22_backoff, G22_unpolled, pre25⟩
    · obtain ⟨cq26, kq26, q26a, q26b, q26c⟩ := isOf hZ rfl A22q
      obtain ⟨_, _, ⟨T26, L26, k26, n26⟩, -, X26, ⟨Lc26, hQ26, l26, y26, z26⟩, st26⟩ := X22.virtualBack hx (y := (⟨"com/example/bouncer/bouncer/http/Polling", "gaveUp", "()V"⟩ : MethodName)) (z := (⟨"com/example/bouncer/bouncer/http/Polling", "gaveUp", "()V"⟩ : MethodName)) hown (mvT hZ (hw _ (List.mem_of_getElem? (i := 11) rfl))) (mvT hZ (hw _ (List.mem_of_getElem? (i := 12) rfl))) (notFace_of_selects (args := #[]) (mvT hZ (hw _ (List.mem_of_getElem? (i := 14) rfl)))) (mvT hZ (hw _ (List.mem_of_getElem? (i := 14) rfl))) (mvT hZ (hw _ (List.mem_of_getElem? (i := 13) rfl))) (by decide) (backOf (W := 0) (rmG l Z a0 hw [] b21 p1 (0 : Int32) (0 : Int32) (0 : Int32) (0 : Int32) p1 (0 : Int32) (1 : Int32) (0 : Int32) (0 : Int32) T22.heap n0 (Nat.le_trans Z0 K22.1) A22q G22_processors G22_waitedBriefly G22_gaveUp G22_backoff G22_unpolled g_b21 rfl rfl rfl rfl rfl) hZ (hw _ (List.mem_of_getElem? (i := 15) rfl)) (hw _ (List.mem_of_getElem? (i := 2) rfl)) (by decide) (by decide)) q26a q26c (g := (mkF m 74 #[.val (.int p1), .val (.int p2), .val (.int p3), .val (.long q4), .second, .val (.long q5), .second, .val (.int p6), .val (.int f4), .val (.int f9), .val (.int f14), .val (.int f19), .val (.ref b21), .unset, .unset, .unset, .unset, .unset, .unset, .unset, .unset, .unset, .unset] [(.ref b21)])) rfl (by rw [hml]; rfl) (Steps.refl _) (argsL := []) (rest := []) (lenOf pd_rm0_1 rfl) rfl (by show 2 * 0 + _ ≤ _; exact Nat.le_of_eq rfl) (hb hby at_74) (fun _ _ => ⟨rfl, rfl, (by decide : 1 + 0 ≤ _), (by decide : 5 + 0 ≤ _)⟩)
      dsimp only [Pt.U, Pt.locs, Pt.cells, Pt.slots] at X26 l26 y26 z26 st26 hQ26
      subst l26 y26 z26
      obtain ⟨rfl, N26q, K26q, A26q, G26_processors, G26_waitedBriefly, G26_gaveUp, G26_backoff, G26_unpolled⟩ := hQ26
      have N26 := Fr.app N22 N26q
      have K26 : Keep h0 T26.heap [] := (K22).trans K26q (allS (Or.inr sz_b21) all0)
      have pre27 : ∀ t, Steps p.tables e below (T26.setTop (mkF m 77 #[.val (.int p1), .val (.int p2), .val (.int p3), .val (.long q4), .second, .val (.long q5), .second, .val (.int p6), .val (.int f4), .val (.int f9), .val (.int f14), .val (.int f19), .val (.ref b21), .unset, .unset, .unset, .unset, .unset, .unset, .unset, .unset, .unset, .unset] [])) t → Steps p.tables e below (s₁.setTop (entryFrame m #[(.int p1), (.int p2), (.int p3), (.long q4), (.long q5), (.int p6)] maxLocals)) t := fun t k => pre23 t (by
          show Steps p.tables e below (T22.setTop (mkF m 69 #[.val (.int p1), .val (.int p2), .val (.int p3), .val (.long q4), .second, .val (.long q5), .second, .val (.int p6), .val (.int f4), .val (.int f9), .val (.int f14), .val (.int f19), .val (.ref b21), .unset, .unset, .unset, .unset, .unset, .unset, .unset, .unset, .unset, .unset] [(.int f4)])) _
          refine XS.ifNo X22.here hx rfl (hb hby at_69) rfl ((if0 _ _).trans (feq hc24).1) ?_
          show Steps p.tables e below (T22.setTop (mkF m 72 #[.val (.int p1), .val (.int p2), .val (.int p3), .val (.long q4), .second, .val (.long q5), .second, .val (.int p6), .val (.int f4), .val (.int f9), .val (.int f14), .val (.int f19), .val (.ref b21), .unset, .unset, .unset, .unset, .unset, .unset, .unset, .unset, .unset, .unset] [])) _
          refine XS.aload X22.here hx rfl (hb hby at_72) rfl rfl ?_
          show Steps p.tables e below (T22.setTop (mkF m 74 #[.val (.int p1), .val (.int p2), .val (.int p3), .val (.long q4), .second, .val (.long q5), .second, .val (.int p6), .val (.int f4), .val (.int f9), .val (.int f14), .val (.int f19), .val (.ref b21), .unset, .unset, .unset, .unset, .unset, .unset, .unset, .unset, .unset, .unset] [(.ref b21)])) _
          refine st26.trans ?_
          exact k)
      exact ⟨T26, T26.heap, _, X26, rfl, N26, K26, A26q, G26_processors, G26_waitedBriefly, (by rw [if_neg hc24]; exact G26_gaveUp), G26_backoff, G26_unpolled, pre27⟩
  obtain ⟨x28, hx28⟩ : ∃ z, wbF q4 = z := ⟨_, rfl⟩
  obtain ⟨x29, hx29⟩ : ∃ z, boF (if f4 = (0 : Int32) then (0 : Int32) else (1 : Int32)) (0 : Int32) q4 = z := ⟨_, rfl⟩
  obtain ⟨x30, hx30⟩ : ∃ z, unF (if f4 = (0 : Int32) then (0 : Int32) else (1 : Int32)) (0 : Int32) (0 : Int32) q4 = z := ⟨_, rfl⟩
  obtain ⟨cq31, kq31, q31a, q31b, q31c⟩ := isOf hZ e24 A24
  obtain ⟨_, _, ⟨T31, L31, k31, n31⟩, -, X31, ⟨Lc31, hQ31, l31, y31, z31⟩, st31⟩ := X24.virtualBack hx (y := (⟨"com/example/bouncer/bouncer/http/Polling", "waited", "(J)V"⟩ : MethodName)) (z := (⟨"com/example/bouncer/bouncer/http/Polling", "waited", "(J)V"⟩ : MethodName)) hown (mvT hZ (hw _ (List.mem_of_getElem? (i := 18) rfl))) (mvT hZ (hw _ (List.mem_of_getElem? (i := 19) rfl))) (notFace_of_selects (args := #[]) (mvT hZ (hw _ (List.mem_of_getElem? (i := 21) rfl)))) (mvT hZ (hw _ (List.mem_of_getElem? (i := 21) rfl))) (mvT hZ (hw _ (List.mem_of_getElem? (i := 20) rfl))) (by decide) (backOf (W := 0) (rmW l Z a0 hw [] b21 q4 p1 (0 : Int32) (if f4 = (0 : Int32) then (0 : Int32) else (1 : Int32)) (0 : Int32) (0 : Int32) p1 x28 (0 : Int32) x29 x30 h24 n0 (Nat.le_trans Z0 K24.1) A24 F24_processors F24_waitedBriefly F24_gaveUp F24_backoff F24_unpolled g_b21 (Sta.ext (own_keep_ext K24) S_P) rfl hx28 rfl hx29 hx30) hZ (hw _ (List.mem_of_getElem? (i := 22) rfl)) (hw _ (List.mem_of_getElem? (i := 2) rfl)) (by decide) (by decide)) q31a q31c (g := (mkF m 80 #[.val (.int p1), .val (.int p2), .val (.int p3), .val (.long q4), .second, .val (.long q5), .second, .val (.int p6), .val (.int f4), .val (.int f9), .val (.int f14), .val (.int f19), .val (.ref b21), .unset, .unset, .unset, .unset, .unset, .unset, .unset, .unset, .unset, .unset] [(.long q4), (.ref b21)])) rfl (by rw [hml]; rfl) (Steps.refl _) (argsL := [(.long q4)]) (rest := []) (lenOf pd_rm0_2 rfl) rfl (by show 2 * 0 + _ ≤ _; exact Nat.le_of_eq rfl) (hb hby at_80) (fun _ _ => ⟨rfl, e24, (by decide : 1 + 0 ≤ _), (by decide : 5 + 0 ≤ _)⟩)
  dsimp only [Pt.U, Pt.locs, Pt.cells, Pt.slots] at X31 l31 y31 z31 st31 hQ31
  subst l31 y31 z31
  obtain ⟨rfl, N31q, K31q, A31q, G31_processors, G31_waitedBriefly, G31_gaveUp, G31_backoff, G31_unpolled⟩ := hQ31
  have N31 := Fr.app N24 N31q
  have K31 : Keep h0 T31.heap [] := (K24).trans K31q (allS (Or.inr sz_b21) all0)
  have pre32 : ∀ t, Steps p.tables e below (T31.setTop (mkF m 85 #[.val (.int p1), .val (.int p2), .val (.int p3), .val (.long q4), .second, .val (.long q5), .second, .val (.int p6), .val (.int f4), .val (.int f9), .val (.int f14), .val (.int f19), .val (.ref b21), .unset, .unset, .unset, .unset, .unset, .unset, .unset, .unset, .unset, .unset] [(.int f14)])) t → Steps p.tables e below (s₁.setTop (entryFrame m #[(.int p1), (.int p2), (.int p3), (.long q4), (.long q5), (.int p6)] maxLocals)) t := fun t k => pre24 t (by
      show Steps p.tables e below (T24.setTop (mkF m 77 #[.val (.int p1), .val (.int p2), .val (.int p3), .val (.long q4), .second, .val (.long q5), .second, .val (.int p6), .val (.int f4), .val (.int f9), .val (.int f14), .val (.int f19), .val (.ref b21), .unset, .unset, .unset, .unset, .unset, .unset, .unset, .unset, .unset, .unset] [])) _
      refine XS.aload X24.here hx rfl (hb hby at_77) rfl rfl ?_
      show Steps p.tables e below (T24.setTop (mkF m 79 #[.val (.int p1), .val (.int p2), .val (.int p3), .val (.long q4), .second, .val (.long q5), .second, .val (.int p6), .val (.int f4), .val (.int f9), .val (.int f14), .val (.int f19), .val (.ref b21), .unset, .unset, .unset, .unset, .unset, .unset, .unset, .unset, .unset, .unset] [(.ref b21)])) _
      refine XS.lloadN X24.here hx rfl (hb hby at_79) rfl ?_
      show Steps p.tables e below (T24.setTop (mkF m 80 #[.val (.int p1), .val (.int p2), .val (.int p3), .val (.long q4), .second, .val (.long q5), .second, .val (.int p6), .val (.int f4), .val (.int f9), .val (.int f14), .val (.int f19), .val (.ref b21), .unset, .unset, .unset, .unset, .unset, .unset, .unset, .unset, .unset, .unset] [(.long q4), (.ref b21)])) _
      refine st31.trans ?_
      show Steps p.tables e below (T31.setTop (mkF m 83 #[.val (.int p1), .val (.int p2), .val (.int p3), .val (.long q4), .second, .val (.long q5), .second, .val (.int p6), .val (.int f4), .val (.int f9), .val (.int f14), .val (.int f19), .val (.ref b21), .unset, .unset, .unset, .unset, .unset, .unset, .unset, .unset, .unset, .unset] [])) _
      refine XS.iload X31.here hx rfl (hb hby at_83) rfl ?_
      exact k)
  obtain ⟨T33, h33, L33, X33, e33, N33, K33, A33, F33_processors, F33_waitedBriefly, F33_gaveUp, F33_backoff, F33_unpolled, pre33⟩ : ∃ (T' : State) (h' : Heap) (L' : List Loc), Stand p l e room_1 s m #[(.int p1), (.int p2), (.int p3), (.long q4), (.long q5), (.int p6)] below meth c T' L' 1 5 ∧ T'.heap = h' ∧ Fr n0 L' ∧ Keep h0 h' [] ∧ Exa Z h' b21 "com/example/bouncer/bouncer/http/Polling" ∧ Fld Z h' b21 "com/example/bouncer/bouncer/http/Polling" "processors" "I" (.int p1) ∧ Fld Z h' b21 "com/example/bouncer/bouncer/http/Polling" "waitedBriefly" "Z" (.int x28) ∧ Fld Z h' b21 "com/example/bouncer/bouncer/http/Polling" "gaveUp" "Z" (.int (0 : Int32)) ∧ Fld Z h' b21 "com/example/bouncer/bouncer/http/Polling" "backoff" "I" (.int (if f14 = (0 : Int32) then x29 else (foF f19 x29))) ∧ Fld Z h' b21 "com/example/bouncer/bouncer/http/Polling" "unpolled" "I" (.int x30) ∧ ∀ t, Steps p.tables e below (T'.setTop (mkF m 95 #[.val (.int p1), .val (.int p2), .val (.int p3), .val (.long q4), .second, .val (.long q5), .second, .val (.int p6), .val (.int f4), .val (.int f9), .val (.int f14), .val (.int f19), .val (.ref b21), .unset, .unset, .unset, .unset, .unset, .unset, .unset, .unset, .unset, .unset] [])) t → Steps p.tables e below (s₁.setTop (entryFrame m #[(.int p1), (.int p2), (.int p3), (.long q4), (.long q5), (.int p6)] maxLocals)) t := by
    by_cases hc33 : f14 = (0 : Int32)
    · have pre34 : ∀ t, Steps p.tables e below (T31.setTop (mkF m 95 #[.val (.int p1), .val (.int p2), .val (.int p3), .val (.long q4), .second, .val (.long q5), .second, .val (.int p6), .val (.int f4), .val (.int f9), .val (.int f14), .val (.int f19), .val (.ref b21), .unset, .unset, .unset, .unset, .unset, .unset, .unset, .unset, .unset, .unset] [])) t → Steps p.tables e below (s₁.setTop (entryFrame m #[(.int p1), (.int p2), (.int p3), (.long q4), (.long q5), (.int p6)] maxLocals)) t := fun t k => pre32 t (by
          show Steps p.tables e below (T31.setTop (mkF m 85 #[.val (.int p1), .val (.int p2), .val (.int p3), .val (.long q4), .second, .val (.long q5), .second, .val (.int p6), .val (.int f4), .val (.int f9), .val (.int f14), .val (.int f19), .val (.ref b21), .unset, .unset, .unset, .unset, .unset, .unset, .unset, .unset, .unset, .unset] [(.int f14)])) _
          refine XS.ifYes X31.here hx rfl (pc0 := 85) (pc' := 95) rfl (hb hby at_85) rfl ((if0 _ _).trans (teq hc33).1) (by decide) (by decide) ?_
          exact k)
      exact ⟨T31, T31.heap, _, X31, rfl, N31, K31, A31q, G31_processors, G31_waitedBriefly, G31_gaveUp, (by rw [if_pos hc33]; exact G31_backoff), G31_unpolled, pre34⟩
    · obtain ⟨cq35, kq35, q35a, q35b, q35c⟩ := isOf hZ rfl A31q
      obtain ⟨_, _, ⟨T35, L35, k35, n35⟩, -, X35, ⟨Lc35, hQ35, l35, y35, z35⟩, st35⟩ := X31.virtualBack hx (y := (⟨"com/example/bouncer/bouncer/http/Polling", "found", "(Z)V"⟩ : MethodName)) (z := (⟨"com/example/bouncer/bouncer/http/Polling", "found", "(Z)V"⟩ : MethodName)) hown (mvT hZ (hw _ (List.mem_of_getElem? (i := 46) rfl))) (mvT hZ (hw _ (List.mem_of_getElem? (i := 47) rfl))) (notFace_of_selects (args := #[]) (mvT hZ (hw _ (List.mem_of_getElem? (i := 49) rfl)))) (mvT hZ (hw _ (List.mem_of_getElem? (i := 49) rfl))) (mvT hZ (hw _ (List.mem_of_getElem? (i := 48) rfl))) (by decide) (backOf (W := 0) (rmF l Z a0 hw [] b21 f19 p1 x28 (0 : Int32) x29 x30 p1 x28 (0 : Int32) (foF f19 x29) x30 T31.heap n0 (Nat.le_trans Z0 K31.1) A31q G31_processors G31_waitedBriefly G31_gaveUp G31_backoff G31_unpolled g_b21 rfl rfl rfl rfl rfl) hZ (hw _ (List.mem_of_getElem? (i := 50) rfl)) (hw _ (List.mem_of_getElem? (i := 2) rfl)) (by decide) (by decide)) q35a q35c (g := (mkF m 92 #[.val (.int p1), .val (.int p2), .val (.int p3), .val (.long q4), .second, .val (.long q5), .second, .val (.int p6), .val (.int f4), .val (.int f9), .val (.int f14), .val (.int f19), .val (.ref b21), .unset, .unset, .unset, .unset, .unset, .unset, .unset, .unset, .unset, .unset] [(.int f19), (.ref b21)])) rfl (by rw [hml]; rfl) (Steps.refl _) (argsL := [(.int f19)]) (rest := []) (lenOf pd_rm0_3 rfl) rfl (by show 2 * 0 + _ ≤ _; exact Nat.le_of_eq rfl) (hb hby at_92) (fun _ _ => ⟨rfl, rfl, (by decide : 1 + 0 ≤ _), (by decide : 5 + 0 ≤ _)⟩)
      dsimp only [Pt.U, Pt.locs, Pt.cells, Pt.slots] at X35 l35 y35 z35 st35 hQ35
      subst l35 y35 z35
      obtain ⟨rfl, N35q, K35q, A35q, G35_processors, G35_waitedBriefly, G35_gaveUp, G35_backoff, G35_unpolled⟩ := hQ35
      have N35 := Fr.app N31 N35q
      have K35 : Keep h0 T35.heap [] := (K31).trans K35q (allS (Or.inr sz_b21) all0)
      have pre36 : ∀ t, Steps p.tables e below (T35.setTop (mkF m 95 #[.val (.int p1), .val (.int p2), .val (.int p3), .val (.long q4), .second, .val (.long q5), .second, .val (.int p6), .val (.int f4), .val (.int f9), .val (.int f14), .val (.int f19), .val (.ref b21), .unset, .unset, .unset, .unset, .unset, .unset, .unset, .unset, .unset, .unset] [])) t → Steps p.tables e below (s₁.setTop (entryFrame m #[(.int p1), (.int p2), (.int p3), (.long q4), (.long q5), (.int p6)] maxLocals)) t := fun t k => pre32 t (by
          show Steps p.tables e below (T31.setTop (mkF m 85 #[.val (.int p1), .val (.int p2), .val (.int p3), .val (.long q4), .second, .val (.long q5), .second, .val (.int p6), .val (.int f4), .val (.int f9), .val (.int f14), .val (.int f19), .val (.ref b21), .unset, .unset, .unset, .unset, .unset, .unset, .unset, .unset, .unset, .unset] [(.int f14)])) _
          refine XS.ifNo X31.here hx rfl (hb hby at_85) rfl ((if0 _ _).trans (feq hc33).1) ?_
          show Steps p.tables e below (T31.setTop (mkF m 88 #[.val (.int p1), .val (.int p2), .val (.int p3), .val (.long q4), .second, .val (.long q5), .second, .val (.int p6), .val (.int f4), .val (.int f9), .val (.int f14), .val (.int f19), .val (.ref b21), .unset, .unset, .unset, .unset, .unset, .unset, .unset, .unset, .unset, .unset] [])) _
          refine XS.aload X31.here hx rfl (hb hby at_88) rfl rfl ?_
          show Steps p.tables e below (T31.setTop (mkF m 90 #[.val (.int p1), .val (.int p2), .val (.int p3), .val (.long q4), .second, .val (.long q5), .second, .val (.int p6), .val (.int f4), .val (.int f9), .val (.int f14), .val (.int f19), .val (.ref b21), .unset, .unset, .unset, .unset, .unset, .unset, .unset, .unset, .unset, .unset] [(.ref b21)])) _
          refine XS.iload X31.here hx rfl (hb hby at_90) rfl ?_
          show Steps p.tables e below (T31.setTop (mkF m 92 #[.val (.int p1), .val (.int p2), .val (.int p3), .val (.long q4), .second, .val (.long q5), .second, .val (.int p6), .val (.int f4), .val (.int f9), .val (.int f14), .val (.int f19), .val (.ref b21), .unset, .unset, .unset, .unset, .unset, .unset, .unset, .unset, .unset, .unset] [(.int f19), (.ref b21)])) _
          refine st35.trans ?_
          exact k)
      exact ⟨T35, T35.heap, _, X35, rfl, N35, K35, A35q, G35_processors, G35_waitedBriefly, G35_gaveUp, (by rw [if_neg hc33]; exact G35_backoff), G35_unpolled, pre36⟩
  have pre37 : ∀ t, Steps p.tables e below (T33.setTop (mkF m 97 #[.val (.int p1), .val (.int p2), .val (.int p3), .val (.long q4), .second, .val (.long q5), .second, .val (.int p6), .val (.int f4), .val (.int f9), .val (.int f14), .val (.int f19), .val (.ref b21), .unset, .unset, .unset, .unset, .unset, .unset, .unset, .unset, .unset, .unset] [(.int f9)])) t → Steps p.tables e below (s₁.setTop (entryFrame m #[(.int p1), (.int p2), (.int p3), (.long q4), (.long q5), (.int p6)] maxLocals)) t := fun t k => pre33 t (by
      show Steps p.tables e below (T33.setTop (mkF m 95 #[.val (.int p1), .val (.int p2), .val (.int p3), .val (.long q4), .second, .val (.long q5), .second, .val (.int p6), .val (.int f4), .val (.int f9), .val (.int f14), .val (.int f19), .val (.ref b21), .unset, .unset, .unset, .unset, .unset, .unset, .unset, .unset, .unset, .unset] [])) _
      refine XS.iload X33.here hx rfl (hb hby at_95) rfl ?_
      exact k)
  obtain ⟨T38, h38, L38, X38, e38, N38, K38, A38, F38_processors, F38_waitedBriefly, F38_gaveUp, F38_backoff, F38_unpolled, pre38⟩ : ∃ (T' : State) (h' : Heap) (L' : List Loc), Stand p l e room_1 s m #[(.int p1), (.int p2), (.int p3), (.long q4), (.long q5), (.int p6)] below meth c T' L' 1 5 ∧ T'.heap = h' ∧ Fr n0 L' ∧ Keep h0 h' [] ∧ Exa Z h' b21 "com/example/bouncer/bouncer/http/Polling" ∧ Fld Z h' b21 "com/example/bouncer/bouncer/http/Polling" "processors" "I" (.int p1) ∧ Fld Z h' b21 "com/example/bouncer/bouncer/http/Polling" "waitedBriefly" "Z" (.int x28) ∧ Fld Z h' b21 "com/example/bouncer/bouncer/http/Polling" "gaveUp" "Z" (.int (if f9 = (0 : Int32) then (0 : Int32) else (1 : Int32))) ∧ Fld Z h' b21 "com/example/bouncer/bouncer/http/Polling" "backoff" "I" (.int (if f14 = (0 : Int32) then x29 else (foF f19 x29))) ∧ Fld Z h' b21 "com/example/bouncer/bouncer/http/Polling" "unpolled" "I" (.int x30) ∧ ∀ t, Steps p.tables e below (T'.setTop (mkF m 105 #[.val (.int p1), .val (.int p2), .val (.int p3), .val (.long q4), .second, .val (.long q5), .second, .val (.int p6), .val (.int f4), .val (.int f9), .val (.int f14), .val (.int f19), .val (.ref b21), .unset, .unset, .unset, .unset, .unset, .unset, .unset, .unset, .unset, .unset] [])) t → Steps p.tables e below (s₁.setTop (entryFrame m #[(.int p1), (.int p2), (.int p3), (.long q4), (.long q5), (.int p6)] maxLocals)) t := by
    by_cases hc38 : f9 = (0 : Int32)
    · have pre39 : ∀ t, Steps p.tables e below (T33.setTop (mkF m 105 #[.val (.int p1), .val (.int p2), .val (.int p3), .val (.long q4), .second, .val (.long q5), .second, .val (.int p6), .val (.int f4), .val (.int f9), .val (.int f14), .val (.int f19), .val (.ref b21), .unset, .unset, .unset, .unset, .unset, .unset, .unset, .unset, .unset, .unset] [])) t → Steps p.tables e below (s₁.setTop (entryFrame m #[(.int p1), (.int p2), (.int p3), (.long q4), (.long q5), (.int p6)] maxLocals)) t := fun t k => pre37 t (by
          show Steps p.tables e below (T33.setTop (mkF m 97 #[.val (.int p1), .val (.int p2), .val (.int p3), .val (.long q4), .second, .val (.long q5), .second, .val (.int p6), .val (.int f4), .val (.int f9), .val (.int f14), .val (.int f19), .val (.ref b21), .unset, .unset, .unset, .unset, .unset, .unset, .unset, .unset, .unset, .unset] [(.int f9)])) _
          refine XS.ifYes X33.here hx rfl (pc0 := 97) (pc' := 105) rfl (hb hby at_97) rfl ((if0 _ _).trans (teq hc38).1) (by decide) (by decide) ?_
          exact k)
      exact ⟨T33, h33, _, X33, e33, N33, K33, A33, F33_processors, F33_waitedBriefly, (by rw [if_pos hc38]; exact F33_gaveUp), F33_backoff, F33_unpolled, pre39⟩
    · obtain ⟨cq40, kq40, q40a, q40b, q40c⟩ := isOf hZ e33 A33
      obtain ⟨_, _, ⟨T40, L40, k40, n40⟩, -, X40, ⟨Lc40, hQ40, l40, y40, z40⟩, st40⟩ := X33.virtualBack hx (y := (⟨"com/example/bouncer/bouncer/http/Polling", "gaveUp", "()V"⟩ : MethodName)) (z := (⟨"com/example/bouncer/bouncer/http/Polling", "gaveUp", "()V"⟩ : MethodName)) hown (mvT hZ (hw _ (List.mem_of_getElem? (i := 11) rfl))) (mvT hZ (hw _ (List.mem_of_getElem? (i := 12) rfl))) (notFace_of_selects (args := #[]) (mvT hZ (hw _ (List.mem_of_getElem? (i := 14) rfl)))) (mvT hZ (hw _ (List.mem_of_getElem? (i := 14) rfl))) (mvT hZ (hw _ (List.mem_of_getElem? (i := 13) rfl))) (by decide) (backOf (W := 0) (rmG l Z a0 hw [] b21 p1 x28 (0 : Int32) (if f14 = (0 : Int32) then x29 else (foF f19 x29)) x30 p1 x28 (1 : Int32) (if f14 = (0 : Int32) then x29 else (foF f19 x29)) x30 h33 n0 (Nat.le_trans Z0 K33.1) A33 F33_processors F33_waitedBriefly F33_gaveUp F33_backoff F33_unpolled g_b21 rfl rfl rfl rfl rfl) hZ (hw _ (List.mem_of_getElem? (i := 15) rfl)) (hw _ (List.mem_of_getElem? (i := 2) rfl)) (by decide) (by decide)) q40a q40c (g := (mkF m 102 #[.val (.int p1), .val (.int p2), .val (.int p3), .val (.long q4), .second, .val (.long q5), .second, .val (.int p6), .val (.int f4), .val (.int f9), .val (.int f14), .val (.int f19), .val (.ref b21), .unset, .unset, .unset, .unset, .unset, .unset, .unset, .unset, .unset, .unset] [(.ref b21)])) rfl (by rw [hml]; rfl) (Steps.refl _) (argsL := []) (rest := []) (lenOf pd_rm0_1 rfl) rfl (by show 2 * 0 + _ ≤ _; exact Nat.le_of_eq rfl) (hb hby at_102) (fun _ _ => ⟨rfl, e33, (by decide : 1 + 0 ≤ _), (by decide : 5 + 0 ≤ _)⟩)
      dsimp only [Pt.U, Pt.locs, Pt.cells, Pt.slots] at X40 l40 y40 z40 st40 hQ40
      subst l40 y40 z40
      obtain ⟨rfl, N40q, K40q, A40q, G40_processors, G40_waitedBriefly, G40_gaveUp, G40_backoff, G40_unpolled⟩ := hQ40
      have N40 := Fr.app N33 N40q
      have K40 : Keep h0 T40.heap [] := (K33).trans K40q (allS (Or.inr sz_b21) all0)
      have pre41 : ∀ t, Steps p.tables e below (T40.setTop (mkF m 105 #[.val (.int p1), .val (.int p2), .val (.int p3), .val (.long q4), .second, .val (.long q5), .second, .val (.int p6), .val (.int f4), .val (.int f9), .val (.int f14), .val (.int f19), .val (.ref b21), .unset, .unset, .unset, .unset, .unset, .unset, .unset, .unset, .unset, .unset] [])) t → Steps p.tables e below (s₁.setTop (entryFrame m #[(.int p1), (.int p2), (.int p3), (.long q4), (.long q5), (.int p6)] maxLocals)) t := fun t k => pre37 t (by
          show Steps p.tables e below (T33.setTop (mkF m 97 #[.val (.int p1), .val (.int p2), .val (.int p3), .val (.long q4), .second, .val (.long q5), .second, .val (.int p6), .val (.int f4), .val (.int f9), .val (.int f14), .val (.int f19), .val (.ref b21), .unset, .unset, .unset, .unset, .unset, .unset, .unset, .unset, .unset, .unset] [(.int f9)])) _
          refine XS.ifNo X33.here hx rfl (hb hby at_97) rfl ((if0 _ _).trans (feq hc38).1) ?_
          show Steps p.tables e below (T33.setTop (mkF m 100 #[.val (.int p1), .val (.int p2), .val (.int p3), .val (.long q4), .second, .val (.long q5), .second, .val (.int p6), .val (.int f4), .val (.int f9), .val (.int f14), .val (.int f19), .val (.ref b21), .unset, .unset, .unset, .unset, .unset, .unset, .unset, .unset, .unset, .unset] [])) _
          refine XS.aload X33.here hx rfl (hb hby at_100) rfl rfl ?_
          show Steps p.tables e below (T33.setTop (mkF m 102 #[.val (.int p1), .val (.int p2), .val (.int p3), .val (.long q4), .second, .val (.long q5), .second, .val (.int p6), .val (.int f4), .val (.int f9), .val (.int f14), .val (.int f19), .val (.ref b21), .unset, .unset, .unset, .unset, .unset, .unset, .unset, .unset, .unset, .unset] [(.ref b21)])) _
          refine st40.trans ?_
          exact k)
      exact ⟨T40, T40.heap, _, X40, rfl, N40, K40, A40q, G40_processors, G40_waitedBriefly, (by rw [if_neg hc38]; exact G40_gaveUp), G40_backoff, G40_unpolled, pre41⟩
  obtain ⟨x42, hx42⟩ : ∃ z, wbF q5 = z := ⟨_, rfl⟩
  obtain ⟨x43, hx43⟩ : ∃ z, boF (if f9 = (0 : Int32) then (0 : Int32) else (1 : Int32)) (if f14 = (0 : Int32) then x29 else (foF f19 x29)) q5 = z := ⟨_, rfl⟩
  obtain ⟨x44, hx44⟩ : ∃ z, unF (if f9 = (0 : Int32) then (0 : Int32) else (1 : Int32)) (if f14 = (0 : Int32) then x29 else (foF f19 x29)) x30 q5 = z := ⟨_, rfl⟩
  obtain ⟨cq45, kq45, q45a, q45b, q45c⟩ := isOf hZ e38 A38
  obtain ⟨_, _, ⟨T45, L45, k45, n45⟩, -, X45, ⟨Lc45, hQ45, l45, y45, z45⟩, st45⟩ := X38.virtualBack hx (y := (⟨"com/example/bouncer/bouncer/http/Polling", "waited", "(J)V"⟩ : MethodName)) (z := (⟨"com/example/bouncer/bouncer/http/Polling", "waited", "(J)V"⟩ : MethodName)) hown (mvT hZ (hw _ (List.mem_of_getElem? (i := 18) rfl))) (mvT hZ (hw _ (List.mem_of_getElem? (i := 19) rfl))) (notFace_of_selects (args := #[]) (mvT hZ (hw _ (List.mem_of_getElem? (i := 21) rfl)))) (mvT hZ (hw _ (List.mem_of_getElem? (i := 21) rfl))) (mvT hZ (hw _ (List.mem_of_getElem? (i := 20) rfl))) (by decide) (backOf (W := 0) (rmW l Z a0 hw [] b21 q5 p1 x28 (if f9 = (0 : Int32) then (0 : Int32) else (1 : Int32)) (if f14 = (0 : Int32) then x29 else (foF f19 x29)) x30 p1 x42 (0 : Int32) x43 x44 h38 n0 (Nat.le_trans Z0 K38.1) A38 F38_processors F38_waitedBriefly F38_gaveUp F38_backoff F38_unpolled g_b21 (Sta.ext (own_keep_ext K38) S_P) rfl hx42 rfl hx43 hx44) hZ (hw _ (List.mem_of_getElem? (i := 22) rfl)) (hw _ (List.mem_of_getElem? (i := 2) rfl)) (by decide) (by decide)) q45a q45c (g := (mkF m 109 #[.val (.int p1), .val (.int p2), .val (.int p3), .val (.long q4), .second, .val (.long q5), .second, .val (.int p6), .val (.int f4), .val (.int f9), .val (.int f14), .val (.int f19), .val (.ref b21), .unset, .unset, .unset, .unset, .unset, .unset, .unset, .unset, .unset, .unset] [(.long q5), (.ref b21)])) rfl (by rw [hml]; rfl) (Steps.refl _) (argsL := [(.long q5)]) (rest := []) (lenOf pd_rm0_2 rfl) rfl (by show 2 * 0 + _ ≤ _; exact Nat.le_of_eq rfl) (hb hby at_109) (fun _ _ => ⟨rfl, e38, (by decide : 1 + 0 ≤ _), (by decide : 5 + 0 ≤ _)⟩)
  dsimp only [Pt.U, Pt.locs, Pt.cells, Pt.slots] at X45 l45 y45 z45 st45 hQ45
  subst l45 y45 z45
  obtain ⟨rfl, N45q, K45q, A45q, G45_processors, G45_waitedBriefly, G45_gaveUp, G45_backoff, G45_unpolled⟩ := hQ45
  have N45 := Fr.app N38 N45q
  have K45 : Keep h0 T45.heap [] := (K38).trans K45q (allS (Or.inr sz_b21) all0)
  obtain ⟨x46, hx46⟩ : ∃ z, unP p1 x42 x44 p2 = z := ⟨_, rfl⟩
  obtain ⟨x47, hx47⟩ : ∃ z, plF p1 x42 x44 p2 = z := ⟨_, rfl⟩
  obtain ⟨cq48, kq48, q48a, q48b, q48c⟩ := isOf hZ rfl A45q
  obtain ⟨_, _, ⟨T48, L48, k48, n48⟩, -, X48, ⟨Lc48, hQ48, l48, y48, z48⟩, st48⟩ := X45.virtualBack hx (y := (⟨"com/example/bouncer/bouncer/http/Polling", "pollsNext", "(I)Z"⟩ : MethodName)) (z := (⟨"com/example/bouncer/bouncer/http/Polling", "pollsNext", "(I)Z"⟩ : MethodName)) hown (mvT hZ (hw _ (List.mem_of_getElem? (i := 39) rfl))) (mvT hZ (hw _ (List.mem_of_getElem? (i := 40) rfl))) (notFace_of_selects (args := #[]) (mvT hZ (hw _ (List.mem_of_getElem? (i := 42) rfl)))) (mvT hZ (hw _ (List.mem_of_getElem? (i := 42) rfl))) (mvT hZ (hw _ (List.mem_of_getElem? (i := 41) rfl))) (by decide) (backOf (W := 0) (rmN l Z a0 hw [] b21 p2 p1 x42 (0 : Int32) x43 x44 p1 x42 (0 : Int32) x43 x46 x47 T45.heap n0 (Nat.le_trans Z0 K45.1) A45q G45_processors G45_waitedBriefly G45_gaveUp G45_backoff G45_unpolled g_b21 hx47 rfl rfl rfl rfl hx46) hZ (hw _ (List.mem_of_getElem? (i := 43) rfl)) (hw _ (List.mem_of_getElem? (i := 2) rfl)) (by decide) (by decide)) q48a q48c (g := (mkF m 115 #[.val (.int p1), .val (.int p2), .val (.int p3), .val (.long q4), .second, .val (.long q5), .second, .val (.int p6), .val (.int f4), .val (.int f9), .val (.int f14), .val (.int f19), .val (.ref b21), .unset, .unset, .unset, .unset, .unset, .unset, .unset, .unset, .unset, .unset] [(.int p2), (.ref b21)])) rfl (by rw [hml]; rfl) (Steps.refl _) (argsL := [(.int p2)]) (rest := []) (lenOf pd_rm0_4 rfl) rfl (by show 2 * 0 + _ ≤ _; exact Nat.le_of_eq rfl) (hb hby at_115) (fun _ _ => ⟨rfl, rfl, (by decide : 1 + 0 ≤ _), (by decide : 5 + 0 ≤ _)⟩)
  dsimp only [Pt.U, Pt.locs, Pt.cells, Pt.slots] at X48 l48 y48 z48 st48 hQ48
  subst l48 y48 z48
  obtain ⟨rfl, N48q, K48q, A48q, G48_processors, G48_waitedBriefly, G48_gaveUp, G48_backoff, G48_unpolled⟩ := hQ48
  have N48 := Fr.app N45 N48q
  have K48 : Keep h0 T48.heap [] := (K45).trans K48q (allS (Or.inr sz_b21) all0)
  obtain ⟨x49, hx49⟩ : ∃ z, unP p1 x42 x46 p3 = z := ⟨_, rfl⟩
  obtain ⟨x50, hx50⟩ : ∃ z, plF p1 x42 x46 p3 = z := ⟨_, rfl⟩
  obtain ⟨cq51, kq51, q51a, q51b, q51c⟩ := isOf hZ rfl A48q
  obtain ⟨_, _, ⟨T51, L51, k51, n51⟩, -, X51, ⟨Lc51, hQ51, l51, y51, z51⟩, st51⟩ := X48.virtualBack hx (y := (⟨"com/example/bouncer/bouncer/http/Polling", "pollsNext", "(I)Z"⟩ : MethodName)) (z := (⟨"com/example/bouncer/bouncer/http/Polling", "pollsNext", "(I)Z"⟩ : MethodName)) hown (mvT hZ (hw _ (List.mem_of_getElem? (i := 39) rfl))) (mvT hZ (hw _ (List.mem_of_getElem? (i := 40) rfl))) (notFace_of_selects (args := #[]) (mvT hZ (hw _ (List.mem_of_getElem? (i := 42) rfl)))) (mvT hZ (hw _ (List.mem_of_getElem? (i := 42) rfl))) (mvT hZ (hw _ (List.mem_of_getElem? (i := 41) rfl))) (by decide) (backOf (W := 0) (rmN l Z a0 hw [] b21 p3 p1 x42 (0 : Int32) x43 x46 p1 x42 (0 : Int32) x43 x49 x50 T48.heap n0 (Nat.le_trans Z0 K48.1) A48q G48_processors G48_waitedBriefly G48_gaveUp G48_backoff G48_unpolled g_b21 hx50 rfl rfl rfl rfl hx49) hZ (hw _ (List.mem_of_getElem? (i := 43) rfl)) (hw _ (List.mem_of_getElem? (i := 2) rfl)) (by decide) (by decide)) q51a q51c (g := (mkF m 123 #[.val (.int p1), .val (.int p2), .val (.int p3), .val (.long q4), .second, .val (.long q5), .second, .val (.int p6), .val (.int f4), .val (.int f9), .val (.int f14), .val (.int f19), .val (.ref b21), .val (.int x47), .unset, .unset, .unset, .unset, .unset, .unset, .unset, .unset, .unset] [(.int p3), (.ref b21)])) rfl (by rw [hml]; rfl) (Steps.refl _) (argsL := [(.int p3)]) (rest := []) (lenOf pd_rm0_4 rfl) rfl (by show 2 * 0 + _ ≤ _; exact Nat.le_of_eq rfl) (hb hby at_123) (fun _ _ => ⟨rfl, rfl, (by decide : 1 + 0 ≤ _), (by decide : 5 + 0 ≤ _)⟩)
  dsimp only [Pt.U, Pt.locs, Pt.cells, Pt.slots] at X51 l51 y51 z51 st51 hQ51
  subst l51 y51 z51
  obtain ⟨rfl, N51q, K51q, A51q, G51_processors, G51_waitedBriefly, G51_gaveUp, G51_backoff, G51_unpolled⟩ := hQ51
  have N51 := Fr.app N48 N51q
  have K51 : Keep h0 T51.heap [] := (K48).trans K51q (allS (Or.inr sz_b21) all0)
  have pre52 : ∀ t, Steps p.tables e below (T51.setTop (mkF m 136 #[.val (.int p1), .val (.int p2), .val (.int p3), .val (.long q4), .second, .val (.long q5), .second, .val (.int p6), .val (.int f4), .val (.int f9), .val (.int f14), .val (.int f19), .val (.ref b21), .val (.int x47), .val (.int x50), .val (.int (0 : Int32)), .val (.int (0 : Int32)), .unset, .unset, .unset, .unset, .unset, .unset] [(.int f4)])) t → Steps p.tables e below (s₁.setTop (entryFrame m #[(.int p1), (.int p2), (.int p3), (.long q4), (.long q5), (.int p6)] maxLocals)) t := fun t k => pre38 t (by
      show Steps p.tables e below (T38.setTop (mkF m 105 #[.val (.int p1), .val (.int p2), .val (.int p3), .val (.long q4), .second, .val (.long q5), .second, .val (.int p6), .val (.int f4), .val (.int f9), .val (.int f14), .val (.int f19), .val (.ref b21), .unset, .unset, .unset, .unset, .unset, .unset, .unset, .unset, .unset, .unset] [])) _
      refine XS.aload X38.here hx rfl (hb hby at_105) rfl rfl ?_
      show Steps p.tables e below (T38.setTop (mkF m 107 #[.val (.int p1), .val (.int p2), .val (.int p3), .val (.long q4), .second, .val (.long q5), .second, .val (.int p6), .val (.int f4), .val (.int f9), .val (.int f14), .val (.int f19), .val (.ref b21), .unset, .unset, .unset, .unset, .unset, .unset, .unset, .unset, .unset, .unset] [(.ref b21)])) _
      refine XS.lload X38.here hx rfl (hb hby at_107) rfl ?_
      show Steps p.tables e below (T38.setTop (mkF m 109 #[.val (.int p1), .val (.int p2), .val (.int p3), .val (.long q4), .second, .val (.long q5), .second, .val (.int p6), .val (.int f4), .val (.int f9), .val (.int f14), .val (.int f19), .val (.ref b21), .unset, .unset, .unset, .unset, .unset, .unset, .unset, .unset, .unset, .unset] [(.long q5), (.ref b21)])) _
      refine st45.trans ?_
      show Steps p.tables e below (T45.setTop (mkF m 112 #[.val (.int p1), .val (.int p2), .val (.int p3), .val (.long q4), .second, .val (.long q5), .second, .val (.int p6), .val (.int f4), .val (.int f9), .val (.int f14), .val (.int f19), .val (.ref b21), .unset, .unset, .unset, .unset, .unset, .unset, .unset, .unset, .unset, .unset] [])) _
      refine XS.aload X45.here hx rfl (hb hby at_112) rfl rfl ?_
      show Steps p.tables e below (T45.setTop (mkF m 114 #[.val (.int p1), .val (.int p2), .val (.int p3), .val (.long q4), .second, .val (.long q5), .second, .val (.int p6), .val (.int f4), .val (.int f9), .val (.int f14), .val (.int f19), .val (.ref b21), .unset, .unset, .unset, .unset, .unset, .unset, .unset, .unset, .unset, .unset] [(.ref b21)])) _
      refine XS.iloadN X45.here hx rfl (hb hby at_114) rfl ?_
      show Steps p.tables e below (T45.setTop (mkF m 115 #[.val (.int p1), .val (.int p2), .val (.int p3), .val (.long q4), .second, .val (.long q5), .second, .val (.int p6), .val (.int f4), .val (.int f9), .val (.int f14), .val (.int f19), .val (.ref b21), .unset, .unset, .unset, .unset, .unset, .unset, .unset, .unset, .unset, .unset] [(.int p2), (.ref b21)])) _
      refine st48.trans ?_
      show Steps p.tables e below (T48.setTop (mkF m 118 #[.val (.int p1), .val (.int p2), .val (.int p3), .val (.long q4), .second, .val (.long q5), .second, .val (.int p6), .val (.int f4), .val (.int f9), .val (.int f14), .val (.int f19), .val (.ref b21), .unset, .unset, .unset, .unset, .unset, .unset, .unset, .unset, .unset, .unset] [(.int x47)])) _
      refine XS.istore X48.here hx rfl (hb hby at_118) rfl (l' := #[.val (.int p1), .val (.int p2), .val (.int p3), .val (.long q4), .second, .val (.long q5), .second, .val (.int p6), .val (.int f4), .val (.int f9), .val (.int f14), .val (.int f19), .val (.ref b21), .val (.int x47), .unset, .unset, .unset, .unset, .unset, .unset, .unset, .unset, .unset]) rfl ?_
      show Steps p.tables e below (T48.setTop (mkF m 120 #[.val (.int p1), .val (.int p2), .val (.int p3), .val (.long q4), .second, .val (.long q5), .second, .val (.int p6), .val (.int f4), .val (.int f9), .val (.int f14), .val (.int f19), .val (.ref b21), .val (.int x47), .unset, .unset, .unset, .unset, .unset, .unset, .unset, .unset, .unset] [])) _
      refine XS.aload X48.here hx rfl (hb hby at_120) rfl rfl ?_
      show Steps p.tables e below (T48.setTop (mkF m 122 #[.val (.int p1), .val (.int p2), .val (.int p3), .val (.long q4), .second, .val (.long q5), .second, .val (.int p6), .val (.int f4), .val (.int f9), .val (.int f14), .val (.int f19), .val (.ref b21), .val (.int x47), .unset, .unset, .unset, .unset, .unset, .unset, .unset, .unset, .unset] [(.ref b21)])) _
      refine XS.iloadN X48.here hx rfl (hb hby at_122) rfl ?_
      show Steps p.tables e below (T48.setTop (mkF m 123 #[.val (.int p1), .val (.int p2), .val (.int p3), .val (.long q4), .second, .val (.long q5), .second, .val (.int p6), .val (.int f4), .val (.int f9), .val (.int f14), .val (.int f19), .val (.ref b21), .val (.int x47), .unset, .unset, .unset, .unset, .unset, .unset, .unset, .unset, .unset] [(.int p3), (.ref b21)])) _
      refine st51.trans ?_
      show Steps p.tables e below (T51.setTop (mkF m 126 #[.val (.int p1), .val (.int p2), .val (.int p3), .val (.long q4), .second, .val (.long q5), .second, .val (.int p6), .val (.int f4), .val (.int f9), .val (.int f14), .val (.int f19), .val (.ref b21), .val (.int x47), .unset, .unset, .unset, .unset, .unset, .unset, .unset, .unset, .unset] [(.int x50)])) _
      refine XS.istore X51.here hx rfl (hb hby at_126) rfl (l' := #[.val (.int p1), .val (.int p2), .val (.int p3), .val (.long q4), .second, .val (.long q5), .second, .val (.int p6), .val (.int f4), .val (.int f9), .val (.int f14), .val (.int f19), .val (.ref b21), .val (.int x47), .val (.int x50), .unset, .unset, .unset, .unset, .unset, .unset, .unset, .unset]) rfl ?_
      show Steps p.tables e below (T51.setTop (mkF m 128 #[.val (.int p1), .val (.int p2), .val (.int p3), .val (.long q4), .second, .val (.long q5), .second, .val (.int p6), .val (.int f4), .val (.int f9), .val (.int f14), .val (.int f19), .val (.ref b21), .val (.int x47), .val (.int x50), .unset, .unset, .unset, .unset, .unset, .unset, .unset, .unset] [])) _
      refine XS.iconst X51.here hx rfl (hb hby at_128) ?_
      show Steps p.tables e below (T51.setTop (mkF m 129 #[.val (.int p1), .val (.int p2), .val (.int p3), .val (.long q4), .second, .val (.long q5), .second, .val (.int p6), .val (.int f4), .val (.int f9), .val (.int f14), .val (.int f19), .val (.ref b21), .val (.int x47), .val (.int x50), .unset, .unset, .unset, .unset, .unset, .unset, .unset, .unset] [(.int (0 : Int32))])) _
      refine XS.istore X51.here hx rfl (hb hby at_129) rfl (l' := #[.val (.int p1), .val (.int p2), .val (.int p3), .val (.long q4), .second, .val (.long q5), .second, .val (.int p6), .val (.int f4), .val (.int f9), .val (.int f14), .val (.int f19), .val (.ref b21), .val (.int x47), .val (.int x50), .val (.int (0 : Int32)), .unset, .unset, .unset, .unset, .unset, .unset, .unset]) rfl ?_
      show Steps p.tables e below (T51.setTop (mkF m 131 #[.val (.int p1), .val (.int p2), .val (.int p3), .val (.long q4), .second, .val (.long q5), .second, .val (.int p6), .val (.int f4), .val (.int f9), .val (.int f14), .val (.int f19), .val (.ref b21), .val (.int x47), .val (.int x50), .val (.int (0 : Int32)), .unset, .unset, .unset, .unset, .unset, .unset, .unset] [])) _
      refine XS.iconst X51.here hx rfl (hb hby at_131) ?_
      show Steps p.tables e below (T51.setTop (mkF m 132 #[.val (.int p1), .val (.int p2), .val (.int p3), .val (.long q4), .second, .val (.long q5), .second, .val (.int p6), .val (.int f4), .val (.int f9), .val (.int f14), .val (.int f19), .val (.ref b21), .val (.int x47), .val (.int x50), .val (.int (0 : Int32)), .unset, .unset, .unset, .unset, .unset, .unset, .unset] [(.int (0 : Int32))])) _
      refine XS.istore X51.here hx rfl (hb hby at_132) rfl (l' := #[.val (.int p1), .val (.int p2), .val (.int p3), .val (.long q4), .second, .val (.long q5), .second, .val (.int p6), .val (.int f4), .val (.int f9), .val (.int f14), .val (.int f19), .val (.ref b21), .val (.int x47), .val (.int x50), .val (.int (0 : Int32)), .val (.int (0 : Int32)), .unset, .unset, .unset, .unset, .unset, .unset]) rfl ?_
      show Steps p.tables e below (T51.setTop (mkF m 134 #[.val (.int p1), .val (.int p2), .val (.int p3), .val (.long q4), .second, .val (.long q5), .second, .val (.int p6), .val (.int f4), .val (.int f9), .val (.int f14), .val (.int f19), .val (.ref b21), .val (.int x47), .val (.int x50), .val (.int (0 : Int32)), .val (.int (0 : Int32)), .unset, .unset, .unset, .unset, .unset, .unset] [])) _
      refine XS.iload X51.here hx rfl (hb hby at_134) rfl ?_
      exact k)
  have pre55 : ∀ t, Steps p.tables e below (T51.setTop (mkF m 153 #[.val (.int p1), .val (.int p2), .val (.int p3), .val (.long q4), .second, .val (.long q5), .second, .val (.int p6), .val (.int f4), .val (.int f9), .val (.int f14), .val (.int f19), .val (.ref b21), .val (.int x47), .val (.int x50), .val (.int (if f4 = (0 : Int32) then (0 : Int32) else (if (lcmpW q4 (80000 : Int64)) < (0 : Int32) then (1 : Int32) else (0 : Int32)))), .val (.int (if f4 = (0 : Int32) then (0 : Int32) else (if (lcmpW q4 (80000 : Int64)) < (0 : Int32) then (1 : Int32) else (0 : Int32)))), .unset, .unset, .unset, .unset, .unset, .unset] [])) t → Steps p.tables e below (s₁.setTop (entryFrame m #[(.int p1), (.int p2), (.int p3), (.long q4), (.long q5), (.int p6)] maxLocals)) t := fun t k => pre52 t (by
      by_cases hc53 : f4 = (0 : Int32)
      · show Steps p.tables e below (T51.setTop (mkF m 136 #[.val (.int p1), .val (.int p2), .val (.int p3), .val (.long q4), .second, .val (.long q5), .second, .val (.int p6), .val (.int f4), .val (.int f9), .val (.int f14), .val (.int f19), .val (.ref b21), .val (.int x47), .val (.int x50), .val (.int (0 : Int32)), .val (.int (0 : Int32)), .unset, .unset, .unset, .unset, .unset, .unset] [(.int f4)])) _
        refine XS.ifYes X51.here hx rfl (pc0 := 136) (pc' := 153) rfl (hb hby at_136) rfl ((if0 _ _).trans (teq hc53).1) (by decide) (by decide) ?_
        simp only [if_pos hc53] at k
        exact k
      · show Steps p.tables e below (T51.setTop (mkF m 136 #[.val (.int p1), .val (.int p2), .val (.int p3), .val (.long q4), .second, .val (.long q5), .second, .val (.int p6), .val (.int f4), .val (.int f9), .val (.int f14), .val (.int f19), .val (.ref b21), .val (.int x47), .val (.int x50), .val (.int (0 : Int32)), .val (.int (0 : Int32)), .unset, .unset, .unset, .unset, .unset, .unset] [(.int f4)])) _
        refine XS.ifNo X51.here hx rfl (hb hby at_136) rfl ((if0 _ _).trans (feq hc53).1) ?_
        show Steps p.tables e below (T51.setTop (mkF m 139 #[.val (.int p1), .val (.int p2), .val (.int p3), .val (.long q4), .second, .val (.long q5), .second, .val (.int p6), .val (.int f4), .val (.int f9), .val (.int f14), .val (.int f19), .val (.ref b21), .val (.int x47), .val (.int x50), .val (.int (0 : Int32)), .val (.int (0 : Int32)), .unset, .unset, .unset, .unset, .unset, .unset] [])) _
        refine XS.lloadN X51.here hx rfl (hb hby at_139) rfl ?_
        show Steps p.tables e below (T51.setTop (mkF m 140 #[.val (.int p1), .val (.int p2), .val (.int p3), .val (.long q4), .second, .val (.long q5), .second, .val (.int p6), .val (.int f4), .val (.int f9), .val (.int f14), .val (.int f19), .val (.ref b21), .val (.int x47), .val (.int x50), .val (.int (0 : Int32)), .val (.int (0 : Int32)), .unset, .unset, .unset, .unset, .unset, .unset] [(.long q4)])) _
        refine X51.ldc2Long hx hown (mvT hZ (hw _ (List.mem_of_getElem? (i := 44) rfl))) (g := (mkF m 140 #[.val (.int p1), .val (.int p2), .val (.int p3), .val (.long q4), .second, .val (.long q5), .second, .val (.int p6), .val (.int f4), .val (.int f9), .val (.int f14), .val (.int f19), .val (.ref b21), .val (.int x47), .val (.int x50), .val (.int (0 : Int32)), .val (.int (0 : Int32)), .unset, .unset, .unset, .unset, .unset, .unset] [(.long q4)])) rfl (hb hby at_140) _ ?_
        show Steps p.tables e below (T51.setTop (mkF m 143 #[.val (.int p1), .val (.int p2), .val (.int p3), .val (.long q4), .second, .val (.long q5), .second, .val (.int p6), .val (.int f4), .val (.int f9), .val (.int f14), .val (.int f19), .val (.ref b21), .val (.int x47), .val (.int x50), .val (.int (0 : Int32)), .val (.int (0 : Int32)), .unset, .unset, .unset, .unset, .unset, .unset] [(.long (80000 : Int64)), (.long q4)])) _
        refine XS.lcmp X51.here hx rfl (hb hby at_143) rfl ?_
        by_cases hc54 : (lcmpW q4 (80000 : Int64)) < (0 : Int32)
        · show Steps p.tables e below (T51.setTop (mkF m 144 #[.val (.int p1), .val (.int p2), .val (.int p3), .val (.long q4), .second, .val (.long q5), .second, .val (.int p6), .val (.int f4), .val (.int f9), .val (.int f14), .val (.int f19), .val (.ref b21), .val (.int x47), .val (.int x50), .val (.int (0 : Int32)), .val (.int (0 : Int32)), .unset, .unset, .unset, .unset, .unset, .unset] [(.int (lcmpW q4 (80000 : Int64)))])) _
          refine XS.ifNo X51.here hx rfl (hb hby at_144) rfl ((if0 _ _).trans (tlt hc54).2.1) ?_
          show Steps p.tables e below (T51.setTop (mkF m 147 #[.val (.int p1), .val (.int p2), .val (.int p3), .val (.long q4), .second, .val (.long q5), .second, .val (.int p6), .val (.int f4), .val (.int f9), .val (.int f14), .val (.int f19), .val (.ref b21), .val (.int x47), .val (.int x50), .val (.int (0 : Int32)), .val (.int (0 : Int32)), .unset, .unset, .unset, .unset, .unset, .unset] [])) _
          refine XS.iconst X51.here hx rfl (hb hby at_147) ?_
          show Steps p.tables e below (T51.setTop (mkF m 148 #[.val (.int p1), .val (.int p2), .val (.int p3), .val (.long q4), .second, .val (.long q5), .second, .val (.int p6), .val (.int f4), .val (.int f9), .val (.int f14), .val (.int f19), .val (.ref b21), .val (.int x47), .val (.int x50), .val (.int (0 : Int32)), .val (.int (0 : Int32)), .unset, .unset, .unset, .unset, .unset, .unset] [(.int (1 : Int32))])) _
          refine XS.istore X51.here hx rfl (hb hby at_148) rfl (l' := #[.val (.int p1), .val (.int p2), .val (.int p3), .val (.long q4), .second, .val (.long q5), .second, .val (.int p6), .val (.int f4), .val (.int f9), .val (.int f14), .val (.int f19), .val (.ref b21), .val (.int x47), .val (.int x50), .val (.int (1 : Int32)), .val (.int (0 : Int32)), .unset, .unset, .unset, .unset, .unset, .unset]) rfl ?_
          show Steps p.tables e below (T51.setTop (mkF m 150 #[.val (.int p1), .val (.int p2), .val (.int p3), .val (.long q4), .second, .val (.long q5), .second, .val (.int p6), .val (.int f4), .val (.int f9), .val (.int f14), .val (.int f19), .val (.ref b21), .val (.int x47), .val (.int x50), .val (.int (1 : Int32)), .val (.int (0 : Int32)), .unset, .unset, .unset, .unset, .unset, .unset] [])) _
          refine XS.iconst X51.here hx rfl (hb hby at_150) ?_
          show Steps p.tables e below (T51.setTop (mkF m 151 #[.val (.int p1), .val (.int p2), .val (.int p3), .val (.long q4), .second, .val (.long q5), .second, .val (.int p6), .val (.int f4), .val (.int f9), .val (.int f14), .val (.int f19), .val (.ref b21), .val (.int x47), .val (.int x50), .val (.int (1 : Int32)), .val (.int (0 : Int32)), .unset, .unset, .unset, .unset, .unset, .unset] [(.int (1 : Int32))])) _
          refine XS.istore X51.here hx rfl (hb hby at_151) rfl (l' := #[.val (.int p1), .val (.int p2), .val (.int p3), .val (.long q4), .second, .val (.long q5), .second, .val (.int p6), .val (.int f4), .val (.int f9), .val (.int f14), .val (.int f19), .val (.ref b21), .val (.int x47), .val (.int x50), .val (.int (1 : Int32)), .val (.int (1 : Int32)), .unset, .unset, .unset, .unset, .unset, .unset]) rfl ?_
          simp only [if_neg hc53, if_pos hc54] at k
          exact k
        · show Steps p.tables e below (T51.setTop (mkF m 144 #[.val (.int p1), .val (.int p2), .val (.int p3), .val (.long q4), .second, .val (.long q5), .second, .val (.int p6), .val (.int f4), .val (.int f9), .val (.int f14), .val (.int f19), .val (.ref b21), .val (.int x47), .val (.int x50), .val (.int (0 : Int32)), .val (.int (0 : Int32)), .unset, .unset, .unset, .unset, .unset, .unset] [(.int (lcmpW q4 (80000 : Int64)))])) _
          refine XS.ifYes X51.here hx rfl (pc0 := 144) (pc' := 153) rfl (hb hby at_144) rfl ((if0 _ _).trans (flt hc54).2.1) (by decide) (by decide) ?_
          simp only [if_neg hc53, if_neg hc54] at k
          exact k)
  obtain ⟨v56, hv56⟩ : ∃ z, z = (if f4 = (0 : Int32) then (0 : Int32) else (if (lcmpW q4 (80000 : Int64)) < (0 : Int32) then (1 : Int32) else (0 : Int32))) := ⟨_, rfl⟩
  have pre57 : ∀ t, Steps p.tables e below (T51.setTop (mkF m 153 #[.val (.int p1), .val (.int p2), .val (.int p3), .val (.long q4), .second, .val (.long q5), .second, .val (.int p6), .val (.int f4), .val (.int f9), .val (.int f14), .val (.int f19), .val (.ref b21), .val (.int x47), .val (.int x50), .val (.int v56), .val (.int v56), .unset, .unset, .unset, .unset, .unset, .unset] [])) t → Steps p.tables e below (s₁.setTop (entryFrame m #[(.int p1), (.int p2), (.int p3), (.long q4), (.long q5), (.int p6)] maxLocals)) t := fun t k => pre55 t (by rw [← hv56]; exact k)
  have pre58 : ∀ t, Steps p.tables e below (T51.setTop (mkF m 155 #[.val (.int p1), .val (.int p2), .val (.int p3), .val (.long q4), .second, .val (.long q5), .second, .val (.int p6), .val (.int f4), .val (.int f9), .val (.int f14), .val (.int f19), .val (.ref b21), .val (.int x47), .val (.int x50), .val (.int v56), .val (.int v56), .unset, .unset, .unset, .unset, .unset, .unset] [(.int f14)])) t → Steps p.tables e below (s₁.setTop (entryFrame m #[(.int p1), (.int p2), (.int p3), (.long q4), (.long q5), (.int p6)] maxLocals)) t := fun t k => pre57 t (by
      show Steps p.tables e below (T51.setTop (mkF m 153 #[.val (.int p1), .val (.int p2), .val (.int p3), .val (.long q4), .second, .val (.long q5), .second, .val (.int p6), .val (.int f4), .val (.int f9), .val (.int f14), .val (.int f19), .val (.ref b21), .val (.int x47), .val (.int x50), .val (.int v56), .val (.int v56), .unset, .unset, .unset, .unset, .unset, .unset] [])) _
      refine XS.iload X51.here hx rfl (hb hby at_153) rfl ?_
      exact k)
  have pre61 : ∀ t, Steps p.tables e below (T51.setTop (mkF m 169 #[.val (.int p1), .val (.int p2), .val (.int p3), .val (.long q4), .second, .val (.long q5), .second, .val (.int p6), .val (.int f4), .val (.int f9), .val (.int f14), .val (.int f19), .val (.ref b21), .val (.int x47), .val (.int x50), .val (.int (if f14 = (0 : Int32) then v56 else (if f19 = (0 : Int32) then (v56 / (2 : Int32)) else v56))), .val (.int v56), .unset, .unset, .unset, .unset, .unset, .unset] [])) t → Steps p.tables e below (s₁.setTop (entryFrame m #[(.int p1), (.int p2), (.int p3), (.long q4), (.long q5), (.int p6)] maxLocals)) t := fun t k => pre58 t (by
      by_cases hc59 : f14 = (0 : Int32)
      · show Steps p.tables e below (T51.setTop (mkF m 155 #[.val (.int p1), .val (.int p2), .val (.int p3), .val (.long q4), .second, .val (.long q5), .second, .val (.int p6), .val (.int f4), .val (.int f9), .val (.int f14), .val (.int f19), .val (.ref b21), .val (.int x47), .val (.int x50), .val (.int v56), .val (.int v56), .unset, .unset, .unset, .unset, .unset, .unset] [(.int f14)])) _
        refine XS.ifYes X51.here hx rfl (pc0 := 155) (pc' := 169) rfl (hb hby at_155) rfl ((if0 _ _).trans (teq hc59).1) (by decide) (by decide) ?_
        simp only [if_pos hc59] at k
        exact k
      · show Steps p.tables e below (T51.setTop (mkF m 155 #[.val (.int p1), .val (.int p2), .val (.int p3), .val (.long q4), .second, .val (.long q5), .second, .val (.int p6), .val (.int f4), .val (.int f9), .val (.int f14), .val (.int f19), .val (.ref b21), .val (.int x47), .val (.int x50), .val (.int v56), .val (.int v56), .unset, .unset, .unset, .unset, .unset, .unset] [(.int f14)])) _
        refine XS.ifNo X51.here hx rfl (hb hby at_155) rfl ((if0 _ _).trans (feq hc59).1) ?_
        show Steps p.tables e below (T51.setTop (mkF m 158 #[.val (.int p1), .val (.int p2), .val (.int p3), .val (.long q4), .second, .val (.long q5), .second, .val (.int p6), .val (.int f4), .val (.int f9), .val (.int f14), .val (.int f19), .val (.ref b21), .val (.int x47), .val (.int x50), .val (.int v56), .val (.int v56), .unset, .unset, .unset, .unset, .unset, .unset] [])) _
        refine XS.iload X51.here hx rfl (hb hby at_158) rfl ?_
        by_cases hc60 : f19 = (0 : Int32)
        · show Steps p.tables e below (T51.setTop (mkF m 160 #[.val (.int p1), .val (.int p2), .val (.int p3), .val (.long q4), .second, .val (.long q5), .second, .val (.int p6), .val (.int f4), .val (.int f9), .val (.int f14), .val (.int f19), .val (.ref b21), .val (.int x47), .val (.int x50), .val (.int v56), .val (.int v56), .unset, .unset, .unset, .unset, .unset, .unset] [(.int f19)])) _
          refine XS.ifNo X51.here hx rfl (hb hby at_160) rfl ((if0 _ _).trans (teq hc60).2) ?_
          show Steps p.tables e below (T51.setTop (mkF m 163 #[.val (.int p1), .val (.int p2), .val (.int p3), .val (.long q4), .second, .val (.long q5), .second, .val (.int p6), .val (.int f4), .val (.int f9), .val (.int f14), .val (.int f19), .val (.ref b21), .val (.int x47), .val (.int x50), .val (.int v56), .val (.int v56), .unset, .unset, .unset, .unset, .unset, .unset] [])) _
          refine XS.iload X51.here hx rfl (hb hby at_163) rfl ?_
          show Steps p.tables e below (T51.setTop (mkF m 165 #[.val (.int p1), .val (.int p2), .val (.int p3), .val (.long q4), .second, .val (.long q5), .second, .val (.int p6), .val (.int f4), .val (.int f9), .val (.int f14), .val (.int f19), .val (.ref b21), .val (.int x47), .val (.int x50), .val (.int v56), .val (.int v56), .unset, .unset, .unset, .unset, .unset, .unset] [(.int v56)])) _
          refine XS.iconst X51.here hx rfl (hb hby at_165) ?_
          show Steps p.tables e below (T51.setTop (mkF m 166 #[.val (.int p1), .val (.int p2), .val (.int p3), .val (.long q4), .second, .val (.long q5), .second, .val (.int p6), .val (.int f4), .val (.int f9), .val (.int f14), .val (.int f19), .val (.ref b21), .val (.int x47), .val (.int x50), .val (.int v56), .val (.int v56), .unset, .unset, .unset, .unset, .unset, .unset] [(.int (2 : Int32)), (.int v56)])) _
          refine XS.idiv X51.here hx rfl (hb hby at_166) rfl (by decide) ?_
          show Steps p.tables e below (T51.setTop (mkF m 167 #[.val (.int p1), .val (.int p2), .val (.int p3), .val (.long q4), .second, .val (.long q5), .second, .val (.int p6), .val (.int f4), .val (.int f9), .val (.int f14), .val (.int f19), .val (.ref b21), .val (.int x47), .val (.int x50), .val (.int v56), .val (.int v56), .unset, .unset, .unset, .unset, .unset, .unset] [(.int (v56 / (2 : Int32)))])) _
          refine XS.istore X51.here hx rfl (hb hby at_167) rfl (l' := #[.val (.int p1), .val (.int p2), .val (.int p3), .val (.long q4), .second, .val (.long q5), .second, .val (.int p6), .val (.int f4), .val (.int f9), .val (.int f14), .val (.int f19), .val (.ref b21), .val (.int x47), .val (.int x50), .val (.int (v56 / (2 : Int32))), .val (.int v56), .unset, .unset, .unset, .unset, .unset, .unset]) rfl ?_
          simp only [if_neg hc59, if_pos hc60] at k
          exact k
        · show Steps p.tables e below (T51.setTop (mkF m 160 #[.val (.int p1), .val (.int p2), .val (.int p3), .val (.long q4), .second, .val (.long q5), .second, .val (.int p6), .val (.int f4), .val (.int f9), .val (.int f14), .val (.int f19), .val (.ref b21), .val (.int x47), .val (.int x50), .val (.int v56), .val (.int v56), .unset, .unset, .unset, .unset, .unset, .unset] [(.int f19)])) _
          refine XS.ifYes X51.here hx rfl (pc0 := 160) (pc' := 169) rfl (hb hby at_160) rfl ((if0 _ _).trans (feq hc60).2) (by decide) (by decide) ?_
          simp only [if_neg hc59, if_neg hc60] at k
          exact k)
  obtain ⟨v62, hv62⟩ : ∃ z, z = (if f14 = (0 : Int32) then v56 else (if f19 = (0 : Int32) then (v56 / (2 : Int32)) else v56)) := ⟨_, rfl⟩
  have pre63 : ∀ t, Steps p.tables e below (T51.setTop (mkF m 169 #[.val (.int p1), .val (.int p2), .val (.int p3), .val (.long q4), .second, .val (.long q5), .second, .val (.int p6), .val (.int f4), .val (.int f9), .val (.int f14), .val (.int f19), .val (.ref b21), .val (.int x47), .val (.int x50), .val (.int v62), .val (.int v56), .unset, .unset, .unset, .unset, .unset, .unset] [])) t → Steps p.tables e below (s₁.setTop (entryFrame m #[(.int p1), (.int p2), (.int p3), (.long q4), (.long q5), (.int p6)] maxLocals)) t := fun t k => pre61 t (by rw [← hv62]; exact k)
  have pre64 : ∀ t, Steps p.tables e below (T51.setTop (mkF m 171 #[.val (.int p1), .val (.int p2), .val (.int p3), .val (.long q4), .second, .val (.long q5), .second, .val (.int p6), .val (.int f4), .val (.int f9), .val (.int f14), .val (.int f19), .val (.ref b21), .val (.int x47), .val (.int x50), .val (.int v62), .val (.int v56), .unset, .unset, .unset, .unset, .unset, .unset] [(.int f9)])) t → Steps p.tables e below (s₁.setTop (entryFrame m #[(.int p1), (.int p2), (.int p3), (.long q4), (.long q5), (.int p6)] maxLocals)) t := fun t k => pre63 t (by
      show Steps p.tables e below (T51.setTop (mkF m 169 #[.val (.int p1), .val (.int p2), .val (.int p3), .val (.long q4), .second, .val (.long q5), .second, .val (.int p6), .val (.int f4), .val (.int f9), .val (.int f14), .val (.int f19), .val (.ref b21), .val (.int x47), .val (.int x50), .val (.int v62), .val (.int v56), .unset, .unset, .unset, .unset, .unset, .unset] [])) _
      refine XS.iload X51.here hx rfl (hb hby at_169) rfl ?_
      exact k)
  have pre68 : ∀ t, Steps p.tables e below (T51.setTop (mkF m 204 #[.val (.int p1), .val (.int p2), .val (.int p3), .val (.long q4), .second, .val (.long q5), .second, .val (.int p6), .val (.int f4), .val (.int f9), .val (.int f14), .val (.int f19), .val (.ref b21), .val (.int x47), .val (.int x50), .val (.int (if f9 = (0 : Int32) then v62 else (if (lcmpW q5 (80000 : Int64)) < (0 : Int32) then (if v62 = (0 : Int32) then (1 : Int32) else ((2 : Int32) * v62)) else v62))), .val (.int (if f9 = (0 : Int32) then v56 else (if (lcmpW q5 (80000 : Int64)) < (0 : Int32) then (if v62 = (0 : Int32) then (1 : Int32) else ((2 : Int32) * v62)) else v56))), .unset, .unset, .unset, .unset, .unset, .unset] [])) t → Steps p.tables e below (s₁.setTop (entryFrame m #[(.int p1), (.int p2), (.int p3), (.long q4), (.long q5), (.int p6)] maxLocals)) t := fun t k => pre64 t (by
      by_cases hc65 : f9 = (0 : Int32)
      · show Steps p.tables e below (T51.setTop (mkF m 171 #[.val (.int p1), .val (.int p2), .val (.int p3), .val (.long q4), .second, .val (.long q5), .second, .val (.int p6), .val (.int f4), .val (.int f9), .val (.int f14), .val (.int f19), .val (.ref b21), .val (.int x47), .val (.int x50), .val (.int v62), .val (.int v56), .unset, .unset, .unset, .unset, .unset, .unset] [(.int f9)])) _
        refine XS.ifYes X51.here hx rfl (pc0 := 171) (pc' := 204) rfl (hb hby at_171) rfl ((if0 _ _).trans (teq hc65).1) (by decide) (by decide) ?_
        simp only [if_pos hc65] at k
        exact k
      · show Steps p.tables e below (T51.setTop (mkF m 171 #[.val (.int p1), .val (.int p2), .val (.int p3), .val (.long q4), .second, .val (.long q5), .second, .val (.int p6), .val (.int f4), .val (.int f9), .val (.int f14), .val (.int f19), .val (.ref b21), .val (.int x47), .val (.int x50), .val (.int v62), .val (.int v56), .unset, .unset, .unset, .unset, .unset, .unset] [(.int f9)])) _
        refine XS.ifNo X51.here hx rfl (hb hby at_171) rfl ((if0 _ _).trans (feq hc65).1) ?_
        show Steps p.tables e below (T51.setTop (mkF m 174 #[.val (.int p1), .val (.int p2), .val (.int p3), .val (.long q4), .second, .val (.long q5), .second, .val (.int p6), .val (.int f4), .val (.int f9), .val (.int f14), .val (.int f19), .val (.ref b21), .val (.int x47), .val (.int x50), .val (.int v62), .val (.int v56), .unset, .unset, .unset, .unset, .unset, .unset] [])) _
        refine XS.lload X51.here hx rfl (hb hby at_174) rfl ?_
        show Steps p.tables e below (T51.setTop (mkF m 176 #[.val (.int p1), .val (.int p2), .val (.int p3), .val (.long q4), .second, .val (.long q5), .second, .val (.int p6), .val (.int f4), .val (.int f9), .val (.int f14), .val (.int f19), .val (.ref b21), .val (.int x47), .val (.int x50), .val (.int v62), .val (.int v56), .unset, .unset, .unset, .unset, .unset, .unset] [(.long q5)])) _
        refine X51.ldc2Long hx hown (mvT hZ (hw _ (List.mem_of_getElem? (i := 44) rfl))) (g := (mkF m 176 #[.val (.int p1), .val (.int p2), .val (.int p3), .val (.long q4), .second, .val (.long q5), .second, .val (.int p6), .val (.int f4), .val (.int f9), .val (.int f14), .val (.int f19), .val (.ref b21), .val (.int x47), .val (.int x50), .val (.int v62), .val (.int v56), .unset, .unset, .unset, .unset, .unset, .unset] [(.long q5)])) rfl (hb hby at_176) _ ?_
        show Steps p.tables e below (T51.setTop (mkF m 179 #[.val (.int p1), .val (.int p2), .val (.int p3), .val (.long q4), .second, .val (.long q5), .second, .val (.int p6), .val (.int f4), .val (.int f9), .val (.int f14), .val (.int f19), .val (.ref b21), .val (.int x47), .val (.int x50), .val (.int v62), .val (.int v56), .unset, .unset, .unset, .unset, .unset, .unset] [(.long (80000 : Int64)), (.long q5)])) _
        refine XS.lcmp X51.here hx rfl (hb hby at_179) rfl ?_
        by_cases hc66 : (lcmpW q5 (80000 : Int64)) < (0 : Int32)
        · show Steps p.tables e below (T51.setTop (mkF m 180 #[.val (.int p1), .val (.int p2), .val (.int p3), .val (.long q4), .second, .val (.long q5), .second, .val (.int p6), .val (.int f4), .val (.int f9), .val (.int f14), .val (.int f19), .val (.ref b21), .val (.int x47), .val (.int x50), .val (.int v62), .val (.int v56), .unset, .unset, .unset, .unset, .unset, .unset] [(.int (lcmpW q5 (80000 : Int64)))])) _
          refine XS.ifNo X51.here hx rfl (hb hby at_180) rfl ((if0 _ _).trans (tlt hc66).2.1) ?_
          show Steps p.tables e below (T51.setTop (mkF m 183 #[.val (.int p1), .val (.int p2), .val (.int p3), .val (.long q4), .second, .val (.long q5), .second, .val (.int p6), .val (.int f4), .val (.int f9), .val (.int f14), .val (.int f19), .val (.ref b21), .val (.int x47), .val (.int x50), .val (.int v62), .val (.int v56), .unset, .unset, .unset, .unset, .unset, .unset] [])) _
          refine XS.iload X51.here hx rfl (hb hby at_183) rfl ?_
          by_cases hc67 : v62 = (0 : Int32)
          · show Steps p.tables e below (T51.setTop (mkF m 185 #[.val (.int p1), .val (.int p2), .val (.int p3), .val (.long q4), .second, .val (.long q5), .second, .val (.int p6), .val (.int f4), .val (.int f9), .val (.int f14), .val (.int f19), .val (.ref b21), .val (.int x47), .val (.int x50), .val (.int v62), .val (.int v56), .unset, .unset, .unset, .unset, .unset, .unset] [(.int v62)])) _
            refine XS.ifNo X51.here hx rfl (hb hby at_185) rfl ((if0 _ _).trans (teq hc67).2) ?_
            show Steps p.tables e below (T51.setTop (mkF m 188 #[.val (.int p1), .val (.int p2), .val (.int p3), .val (.long q4), .second, .val (.long q5), .second, .val (.int p6), .val (.int f4), .val (.int f9), .val (.int f14), .val (.int f19), .val (.ref b21), .val (.int x47), .val (.int x50), .val (.int v62), .val (.int v56), .unset, .unset, .unset, .unset, .unset, .unset] [])) _
            refine XS.iconst X51.here hx rfl (hb hby at_188) ?_
            show Steps p.tables e below (T51.setTop (mkF m 189 #[.val (.int p1), .val (.int p2), .val (.int p3), .val (.long q4), .second, .val (.long q5), .second, .val (.int p6), .val (.int f4), .val (.int f9), .val (.int f14), .val (.int f19), .val (.ref b21), .val (.int x47), .val (.int x50), .val (.int v62), .val (.int v56), .unset, .unset, .unset, .unset, .unset, .unset] [(.int (1 : Int32))])) _
            refine XS.istore X51.here hx rfl (hb hby at_189) rfl (l' := #[.val (.int p1), .val (.int p2), .val (.int p3), .val (.long q4), .second, .val (.long q5), .second, .val (.int p6), .val (.int f4), .val (.int f9), .val (.int f14), .val (.int f19), .val (.ref b21), .val (.int x47), .val (.int x50), .val (.int (1 : Int32)), .val (.int v56), .unset, .unset, .unset, .unset, .unset, .unset]) rfl ?_
            show Steps p.tables e below (T51.setTop (mkF m 191 #[.val (.int p1), .val (.int p2), .val (.int p3), .val (.long q4), .second, .val (.long q5), .second, .val (.int p6), .val (.int f4), .val (.int f9), .val (.int f14), .val (.int f19), .val (.ref b21), .val (.int x47), .val (.int x50), .val (.int (1 : Int32)), .val (.int v56), .unset, .unset, .unset, .unset, .unset, .unset] [])) _
            refine XS.goto X51.here hx rfl (pc0 := 191) (pc' := 200) rfl (hb hby at_191) (by decide) (by decide) ?_
            show Steps p.tables e below (T51.setTop (mkF m 200 #[.val (.int p1), .val (.int p2), .val (.int p3), .val (.long q4), .second, .val (.long q5), .second, .val (.int p6), .val (.int f4), .val (.int f9), .val (.int f14), .val (.int f19), .val (.ref b21), .val (.int x47), .val (.int x50), .val (.int (1 : Int32)), .val (.int v56), .unset, .unset, .unset, .unset, .unset, .unset] [])) _
            refine XS.iload X51.here hx rfl (hb hby at_200) rfl ?_
            show Steps p.tables e below (T51.setTop (mkF m 202 #[.val (.int p1), .val (.int p2), .val (.int p3), .val (.long q4), .second, .val (.long q5), .second, .val (.int p6), .val (.int f4), .val (.int f9), .val (.int f14), .val (.int f19), .val (.ref b21), .val (.int x47), .val (.int x50), .val (.int (1 : Int32)), .val (.int v56), .unset, .unset, .unset, .unset, .unset, .unset] [(.int (1 : Int32))])) _
            refine XS.istore X51.here hx rfl (hb hby at_202) rfl (l' := #[.val (.int p1), .val (.int p2), .val (.int p3), .val (.long q4), .second, .val (.long q5), .second, .val (.int p6), .val (.int f4), .val (.int f9), .val (.int f14), .val (.int f19), .val (.ref b21), .val (.int x47), .val (.int x50), .val (.int (1 : Int32)), .val (.int (1 : Int32)), .unset, .unset, .unset, .unset, .unset, .unset]) rfl ?_
            simp only [if_neg hc65, if_pos hc66, if_pos hc67] at k
            exact k
          · show Steps p.tables e below (T51.setTop (mkF m 185 #[.val (.int p1), .val (.int p2), .val (.int p3), .val (.long q4), .second, .val (.long q5), .second, .val (.int p6), .val (.int f4), .val (.int f9), .val (.int f14), .val (.int f19), .val (.ref b21), .val (.int x47), .val (.int x50), .val (.int v62), .val (.int v56), .unset, .unset, .unset, .unset, .unset, .unset] [(.int v62)])) _
            refine XS.ifYes X51.here hx rfl (pc0 := 185) (pc' := 194) rfl (hb hby at_185) rfl ((if0 _ _).trans (feq hc67).2) (by decide) (by decide) ?_
            show Steps p.tables e below (T51.setTop (mkF m 194 #[.val (.int p1), .val (.int p2), .val (.int p3), .val (.long q4), .second, .val (.long q5), .second, .val (.int p6), .val (.int f4), .val (.int f9), .val (.int f14), .val (.int f19), .val (.ref b21), .val (.int x47), .val (.int x50), .val (.int v62), .val (.int v56), .unset, .unset, .unset, .unset, .unset, .unset] [])) _
            refine XS.iconst X51.here hx rfl (hb hby at_194) ?_
            show Steps p.tables e below (T51.setTop (mkF m 195 #[.val (.int p1), .val (.int p2), .val (.int p3), .val (.long q4), .second, .val (.long q5), .second, .val (.int p6), .val (.int f4), .val (.int f9), .val (.int f14), .val (.int f19), .val (.ref b21), .val (.int x47), .val (.int x50), .val (.int v62), .val (.int v56), .unset, .unset, .unset, .unset, .unset, .unset] [(.int (2 : Int32))])) _
            refine XS.iload X51.here hx rfl (hb hby at_195) rfl ?_
            show Steps p.tables e below (T51.setTop (mkF m 197 #[.val (.int p1), .val (.int p2), .val (.int p3), .val (.long q4), .second, .val (.long q5), .second, .val (.int p6), .val (.int f4), .val (.int f9), .val (.int f14), .val (.int f19), .val (.ref b21), .val (.int x47), .val (.int x50), .val (.int v62), .val (.int v56), .unset, .unset, .unset, .unset, .unset, .unset] [(.int v62), (.int (2 : Int32))])) _
            refine XS.imul X51.here hx rfl (hb hby at_197) rfl ?_
            show Steps p.tables e below (T51.setTop (mkF m 198 #[.val (.int p1), .val (.int p2), .val (.int p3), .val (.long q4), .second, .val (.long q5), .second, .val (.int p6), .val (.int f4), .val (.int f9), .val (.int f14), .val (.int f19), .val (.ref b21), .val (.int x47), .val (.int x50), .val (.int v62), .val (.int v56), .unset, .unset, .unset, .unset, .unset, .unset] [(.int ((2 : Int32) * v62))])) _
            refine XS.istore X51.here hx rfl (hb hby at_198) rfl (l' := #[.val (.int p1), .val (.int p2), .val (.int p3), .val (.long q4), .second, .val (.long q5), .second, .val (.int p6), .val (.int f4), .val (.int f9), .val (.int f14), .val (.int f19), .val (.ref b21), .val (.int x47), .val (.int x50), .val (.int ((2 : Int32) * v62)), .val (.int v56), .unset, .unset, .unset, .unset, .unset, .unset]) rfl ?_
            show Steps p.tables e below (T51.setTop (mkF m 200 #[.val (.int p1), .val (.int p2), .val (.int p3), .val (.long q4), .second, .val (.long q5), .second, .val (.int p6), .val (.int f4), .val (.int f9), .val (.int f14), .val (.int f19), .val (.ref b21), .val (.int x47), .val (.int x50), .val (.int ((2 : Int32) * v62)), .val (.int v56), .unset, .unset, .unset, .unset, .unset, .unset] [])) _
            refine XS.iload X51.here hx rfl (hb hby at_200) rfl ?_
            show Steps p.tables e below (T51.setTop (mkF m 202 #[.val (.int p1), .val (.int p2), .val (.int p3), .val (.long q4), .second, .val (.long q5), .second, .val (.int p6), .val (.int f4), .val (.int f9), .val (.int f14), .val (.int f19), .val (.ref b21), .val (.int x47), .val (.int x50), .val (.int ((2 : Int32) * v62)), .val (.int v56), .unset, .unset, .unset, .unset, .unset, .unset] [(.int ((2 : Int32) * v62))])) _
            refine XS.istore X51.here hx rfl (hb hby at_202) rfl (l' := #[.val (.int p1), .val (.int p2), .val (.int p3), .val (.long q4), .second, .val (.long q5), .second, .val (.int p6), .val (.int f4), .val (.int f9), .val (.int f14), .val (.int f19), .val (.ref b21), .val (.int x47), .val (.int x50), .val (.int ((2 : Int32) * v62)), .val (.int ((2 : Int32) * v62)), .unset, .unset, .unset, .unset, .unset, .unset]) rfl ?_
            simp only [if_neg hc65, if_pos hc66, if_neg hc67] at k
            exact k
        · show Steps p.tables e below (T51.setTop (mkF m 180 #[.val (.int p1), .val (.int p2), .val (.int p3), .val (.long q4), .second, .val (.long q5), .second, .val (.int p6), .val (.int f4), .val (.int f9), .val (.int f14), .val (.int f19), .val (.ref b21), .val (.int x47), .val (.int x50), .val (.int v62), .val (.int v56), .unset, .unset, .unset, .unset, .unset, .unset] [(.int (lcmpW q5 (80000 : Int64)))])) _
          refine XS.ifYes X51.here hx rfl (pc0 := 180) (pc' := 204) rfl (hb hby at_180) rfl ((if0 _ _).trans (flt hc66).2.1) (by decide) (by decide) ?_
          simp only [if_neg hc65, if_neg hc66] at k
          exact k)
  obtain ⟨v69, hv69⟩ : ∃ z, z = (if f9 = (0 : Int32) then v62 else (if (lcmpW q5 (80000 : Int64)) < (0 : Int32) then (if v62 = (0 : Int32) then (1 : Int32) else ((2 : Int32) * v62)) else v62)) := ⟨_, rfl⟩
  have pre70 : ∀ t, Steps p.tables e below (T51.setTop (mkF m 204 #[.val (.int p1), .val (.int p2), .val (.int p3), .val (.long q4), .second, .val (.long q5), .second, .val (.int p6), .val (.int f4), .val (.int f9), .val (.int f14), .val (.int f19), .val (.ref b21), .val (.int x47), .val (.int x50), .val (.int v69), .val (.int (if f9 = (0 : Int32) then v56 else (if (lcmpW q5 (80000 : Int64)) < (0 : Int32) then (if v62 = (0 : Int32) then (1 : Int32) else ((2 : Int32) * v62)) else v56))), .unset, .unset, .unset, .unset, .unset, .unset] [])) t → Steps p.tables e below (s₁.setTop (entryFrame m #[(.int p1), (.int p2), (.int p3), (.long q4), (.long q5), (.int p6)] maxLocals)) t := fun t k => pre68 t (by rw [← hv69]; exact k)
  obtain ⟨v71, hv71⟩ : ∃ z, z = (if f9 = (0 : Int32) then v56 else (if (lcmpW q5 (80000 : Int64)) < (0 : Int32) then (if v62 = (0 : Int32) then (1 : Int32) else ((2 : Int32) * v62)) else v56)) := ⟨_, rfl⟩
  have pre72 : ∀ t, Steps p.tables e below (T51.setTop (mkF m 204 #[.val (.int p1), .val (.int p2), .val (.int p3), .val (.long q4), .second, .val (.long q5), .second, .val (.int p6), .val (.int f4), .val (.int f9), .val (.int f14), .val (.int f19), .val (.ref b21), .val (.int x47), .val (.int x50), .val (.int v69), .val (.int v71), .unset, .unset, .unset, .unset, .unset, .unset] [])) t → Steps p.tables e below (s₁.setTop (entryFrame m #[(.int p1), (.int p2), (.int p3), (.long q4), (.long q5), (.int p6)] maxLocals)) t := fun t k => pre70 t (by rw [← hv71]; exact k)
  have pre73 : ∀ t, Steps p.tables e below (T51.setTop (mkF m 210 #[.val (.int p1), .val (.int p2), .val (.int p3), .val (.long q4), .second, .val (.long q5), .second, .val (.int p6), .val (.int f4), .val (.int f9), .val (.int f14), .val (.int f19), .val (.ref b21), .val (.int x47), .val (.int x50), .val (.int v69), .val (.int v71), .unset, .unset, .unset, .unset, .unset, .unset] [(.int (lcmpW q5 (40000 : Int64)))])) t → Steps p.tables e below (s₁.setTop (entryFrame m #[(.int p1), (.int p2), (.int p3), (.long q4), (.long q5), (.int p6)] maxLocals)) t := fun t k => pre72 t (by
      show Steps p.tables e below (T51.setTop (mkF m 204 #[.val (.int p1), .val (.int p2), .val (.int p3), .val (.long q4), .second, .val (.long q5), .second, .val (.int p6), .val (.int f4), .val (.int f9), .val (.int f14), .val (.int f19), .val (.ref b21), .val (.int x47), .val (.int x50), .val (.int v69), .val (.int v71), .unset, .unset, .unset, .unset, .unset, .unset] [])) _
      refine XS.lload X51.here hx rfl (hb hby at_204) rfl ?_
      show Steps p.tables e below (T51.setTop (mkF m 206 #[.val (.int p1), .val (.int p2), .val (.int p3), .val (.long q4), .second, .val (.long q5), .second, .val (.int p6), .val (.int f4), .val (.int f9), .val (.int f14), .val (.int f19), .val (.ref b21), .val (.int x47), .val (.int x50), .val (.int v69), .val (.int v71), .unset, .unset, .unset, .unset, .unset, .unset] [(.long q5)])) _
      refine X51.ldc2Long hx hown (mvT hZ (hw _ (List.mem_of_getElem? (i := 45) rfl))) (g := (mkF m 206 #[.val (.int p1), .val (.int p2), .val (.int p3), .val (.long q4), .second, .val (.long q5), .second, .val (.int p6), .val (.int f4), .val (.int f9), .val (.int f14), .val (.int f19), .val (.ref b21), .val (.int x47), .val (.int x50), .val (.int v69), .val (.int v71), .unset, .unset, .unset, .unset, .unset, .unset] [(.long q5)])) rfl (hb hby at_206) _ ?_
      show Steps p.tables e below (T51.setTop (mkF m 209 #[.val (.int p1), .val (.int p2), .val (.int p3), .val (.long q4), .second, .val (.long q5), .second, .val (.int p6), .val (.int f4), .val (.int f9), .val (.int f14), .val (.int f19), .val (.ref b21), .val (.int x47), .val (.int x50), .val (.int v69), .val (.int v71), .unset, .unset, .unset, .unset, .unset, .unset] [(.long (40000 : Int64)), (.long q5)])) _
      refine XS.lcmp X51.here hx rfl (hb hby at_209) rfl ?_
      exact k)
  have pre75 : ∀ t, Steps p.tables e below (T51.setTop (mkF m 218 #[.val (.int p1), .val (.int p2), .val (.int p3), .val (.long q4), .second, .val (.long q5), .second, .val (.int p6), .val (.int f4), .val (.int f9), .val (.int f14), .val (.int f19), .val (.ref b21), .val (.int x47), .val (.int x50), .val (.int v69), .val (.int v71), .unset, .unset, .unset, .unset, .unset, .unset] [(.int (if (lcmpW q5 (40000 : Int64)) < (0 : Int32) then (1 : Int32) else (0 : Int32)))])) t → Steps p.tables e below (s₁.setTop (entryFrame m #[(.int p1), (.int p2), (.int p3), (.long q4), (.long q5), (.int p6)] maxLocals)) t := fun t k => pre73 t (by
      by_cases hc74 : (lcmpW q5 (40000 : Int64)) < (0 : Int32)
      · show Steps p.tables e below (T51.setTop (mkF m 210 #[.val (.int p1), .val (.int p2), .val (.int p3), .val (.long q4), .second, .val (.long q5), .second, .val (.int p6), .val (.int f4), .val (.int f9), .val (.int f14), .val (.int f19), .val (.ref b21), .val (.int x47), .val (.int x50), .val (.int v69), .val (.int v71), .unset, .unset, .unset, .unset, .unset, .unset] [(.int (lcmpW q5 (40000 : Int64)))])) _
        refine XS.ifNo X51.here hx rfl (hb hby at_210) rfl ((if0 _ _).trans (tlt hc74).2.1) ?_
        show Steps p.tables e below (T51.setTop (mkF m 213 #[.val (.int p1), .val (.int p2), .val (.int p3), .val (.long q4), .second, .val (.long q5), .second, .val (.int p6), .val (.int f4), .val (.int f9), .val (.int f14), .val (.int f19), .val (.ref b21), .val (.int x47), .val (.int x50), .val (.int v69), .val (.int v71), .unset, .unset, .unset, .unset, .unset, .unset] [])) _
        refine XS.iconst X51.here hx rfl (hb hby at_213) ?_
        show Steps p.tables e below (T51.setTop (mkF m 214 #[.val (.int p1), .val (.int p2), .val (.int p3), .val (.long q4), .second, .val (.long q5), .second, .val (.int p6), .val (.int f4), .val (.int f9), .val (.int f14), .val (.int f19), .val (.ref b21), .val (.int x47), .val (.int x50), .val (.int v69), .val (.int v71), .unset, .unset, .unset, .unset, .unset, .unset] [(.int (1 : Int32))])) _
        refine XS.goto X51.here hx rfl (pc0 := 214) (pc' := 218) rfl (hb hby at_214) (by decide) (by decide) ?_
        simp only [if_pos hc74] at k
        exact k
      · show Steps p.tables e below (T51.setTop (mkF m 210 #[.val (.int p1), .val (.int p2), .val (.int p3), .val (.long q4), .second, .val (.long q5), .second, .val (.int p6), .val (.int f4), .val (.int f9), .val (.int f14), .val (.int f19), .val (.ref b21), .val (.int x47), .val (.int x50), .val (.int v69), .val (.int v71), .unset, .unset, .unset, .unset, .unset, .unset] [(.int (lcmpW q5 (40000 : Int64)))])) _
        refine XS.ifYes X51.here hx rfl (pc0 := 210) (pc' := 217) rfl (hb hby at_210) rfl ((if0 _ _).trans (flt hc74).2.1) (by decide) (by decide) ?_
        show Steps p.tables e below (T51.setTop (mkF m 217 #[.val (.int p1), .val (.int p2), .val (.int p3), .val (.long q4), .second, .val (.long q5), .second, .val (.int p6), .val (.int f4), .val (.int f9), .val (.int f14), .val (.int f19), .val (.ref b21), .val (.int x47), .val (.int x50), .val (.int v69), .val (.int v71), .unset, .unset, .unset, .unset, .unset, .unset] [])) _
        refine XS.iconst X51.here hx rfl (hb hby at_217) ?_
        simp only [if_neg hc74] at k
        exact k)
  obtain ⟨v76, hv76⟩ : ∃ z, z = (if (lcmpW q5 (40000 : Int64)) < (0 : Int32) then (1 : Int32) else (0 : Int32)) := ⟨_, rfl⟩
  have pre77 : ∀ t, Steps p.tables e below (T51.setTop (mkF m 218 #[.val (.int p1), .val (.int p2), .val (.int p3), .val (.long q4), .second, .val (.long q5), .second, .val (.int p6), .val (.int f4), .val (.int f9), .val (.int f14), .val (.int f19), .val (.ref b21), .val (.int x47), .val (.int x50), .val (.int v69), .val (.int v71), .unset, .unset, .unset, .unset, .unset, .unset] [(.int v76)])) t → Steps p.tables e below (s₁.setTop (entryFrame m #[(.int p1), (.int p2), (.int p3), (.long q4), (.long q5), (.int p6)] maxLocals)) t := fun t k => pre75 t (by rw [← hv76]; exact k)
  have pre78 : ∀ t, Steps p.tables e below (T51.setTop (mkF m 222 #[.val (.int p1), .val (.int p2), .val (.int p3), .val (.long q4), .second, .val (.long q5), .second, .val (.int p6), .val (.int f4), .val (.int f9), .val (.int f14), .val (.int f19), .val (.ref b21), .val (.int x47), .val (.int x50), .val (.int v69), .val (.int v71), .val (.int v76), .unset, .unset, .unset, .unset, .unset] [(.int v76)])) t → Steps p.tables e below (s₁.setTop (entryFrame m #[(.int p1), (.int p2), (.int p3), (.long q4), (.long q5), (.int p6)] maxLocals)) t := fun t k => pre77 t (by
      show Steps p.tables e below (T51.setTop (mkF m 218 #[.val (.int p1), .val (.int p2), .val (.int p3), .val (.long q4), .second, .val (.long q5), .second, .val (.int p6), .val (.int f4), .val (.int f9), .val (.int f14), .val (.int f19), .val (.ref b21), .val (.int x47), .val (.int x50), .val (.int v69), .val (.int v71), .unset, .unset, .unset, .unset, .unset, .unset] [(.int v76)])) _
      refine XS.istore X51.here hx rfl (hb hby at_218) rfl (l' := #[.val (.int p1), .val (.int p2), .val (.int p3), .val (.long q4), .second, .val (.long q5), .second, .val (.int p6), .val (.int f4), .val (.int f9), .val (.int f14), .val (.int f19), .val (.ref b21), .val (.int x47), .val (.int x50), .val (.int v69), .val (.int v71), .val (.int v76), .unset, .unset, .unset, .unset, .unset]) rfl ?_
      show Steps p.tables e below (T51.setTop (mkF m 220 #[.val (.int p1), .val (.int p2), .val (.int p3), .val (.long q4), .second, .val (.long q5), .second, .val (.int p6), .val (.int f4), .val (.int f9), .val (.int f14), .val (.int f19), .val (.ref b21), .val (.int x47), .val (.int x50), .val (.int v69), .val (.int v71), .val (.int v76), .unset, .unset, .unset, .unset, .unset] [])) _
      refine XS.iload X51.here hx rfl (hb hby at_220) rfl ?_
      exact k)
  have pre82 : ∀ t, Steps p.tables e below (T51.setTop (mkF m 240 #[.val (.int p1), .val (.int p2), .val (.int p3), .val (.long q4), .second, .val (.long q5), .second, .val (.int p6), .val (.int f4), .val (.int f9), .val (.int f14), .val (.int f19), .val (.ref b21), .val (.int x47), .val (.int x50), .val (.int v69), .val (.int v71), .val (.int v76), .unset, .unset, .unset, .unset, .unset] [(.int (if v76 = (0 : Int32) then (0 : Int32) else (if (1 : Int32) < p1 then (if p2 < p1 then (1 : Int32) else (0 : Int32)) else (0 : Int32))))])) t → Steps p.tables e below (s₁.setTop (entryFrame m #[(.int p1), (.int p2), (.int p3), (.long q4), (.long q5), (.int p6)] maxLocals)) t := fun t k => pre78 t (by
      by_cases hc79 : v76 = (0 : Int32)
      · show Steps p.tables e below (T51.setTop (mkF m 222 #[.val (.int p1), .val (.int p2), .val (.int p3), .val (.long q4), .second, .val (.long q5), .second, .val (.int p6), .val (.int f4), .val (.int f9), .val (.int f14), .val (.int f19), .val (.ref b21), .val (.int x47), .val (.int x50), .val (.int v69), .val (.int v71), .val (.int v76), .unset, .unset, .unset, .unset, .unset] [(.int v76)])) _
        refine XS.ifYes X51.here hx rfl (pc0 := 222) (pc' := 239) rfl (hb hby at_222) rfl ((if0 _ _).trans (teq hc79).1) (by decide) (by decide) ?_
        show Steps p.tables e below (T51.setTop (mkF m 239 #[.val (.int p1), .val (.int p2), .val (.int p3), .val (.long q4), .second, .val (.long q5), .second, .val (.int p6), .val (.int f4), .val (.int f9), .val (.int f14), .val (.int f19), .val (.ref b21), .val (.int x47), .val (.int x50), .val (.int v69), .val (.int v71), .val (.int v76), .unset, .unset, .unset, .unset, .unset] [])) _
        refine XS.iconst X51.here hx rfl (hb hby at_239) ?_
        simp only [if_pos hc79] at k
        exact k
      · show Steps p.tables e below (T51.setTop (mkF m 222 #[.val (.int p1), .val (.int p2), .val (.int p3), .val (.long q4), .second, .val (.long q5), .second, .val (.int p6), .val (.int f4), .val (.int f9), .val (.int f14), .val (.int f19), .val (.ref b21), .val (.int x47), .val (.int x50), .val (.int v69), .val (.int v71), .val (.int v76), .unset, .unset, .unset, .unset, .unset] [(.int v76)])) _
        refine XS.ifNo X51.here hx rfl (hb hby at_222) rfl ((if0 _ _).trans (feq hc79).1) ?_
        show Steps p.tables e below (T51.setTop (mkF m 225 #[.val (.int p1), .val (.int p2), .val (.int p3), .val (.long q4), .second, .val (.long q5), .second, .val (.int p6), .val (.int f4), .val (.int f9), .val (.int f14), .val (.int f19), .val (.ref b21), .val (.int x47), .val (.int x50), .val (.int v69), .val (.int v71), .val (.int v76), .unset, .unset, .unset, .unset, .unset] [])) _
        refine XS.iloadN X51.here hx rfl (hb hby at_225) rfl ?_
        show Steps p.tables e below (T51.setTop (mkF m 226 #[.val (.int p1), .val (.int p2), .val (.int p3), .val (.long q4), .second, .val (.long q5), .second, .val (.int p6), .val (.int f4), .val (.int f9), .val (.int f14), .val (.int f19), .val (.ref b21), .val (.int x47), .val (.int x50), .val (.int v69), .val (.int v71), .val (.int v76), .unset, .unset, .unset, .unset, .unset] [(.int p1)])) _
        refine XS.iconst X51.here hx rfl (hb hby at_226) ?_
        by_cases hc80 : (1 : Int32) < p1
        · show Steps p.tables e below (T51.setTop (mkF m 227 #[.val (.int p1), .val (.int p2), .val (.int p3), .val (.long q4), .second, .val (.long q5), .second, .val (.int p6), .val (.int f4), .val (.int f9), .val (.int f14), .val (.int f19), .val (.ref b21), .val (.int x47), .val (.int x50), .val (.int v69), .val (.int v71), .val (.int v76), .unset, .unset, .unset, .unset, .unset] [(.int (1 : Int32)), (.int p1)])) _
          refine XS.icmpNo X51.here hx rfl (hb hby at_227) rfl (tlt hc80).2.2.2 ?_
          show Steps p.tables e below (T51.setTop (mkF m 230 #[.val (.int p1), .val (.int p2), .val (.int p3), .val (.long q4), .second, .val (.long q5), .second, .val (.int p6), .val (.int f4), .val (.int f9), .val (.int f14), .val (.int f19), .val (.ref b21), .val (.int x47), .val (.int x50), .val (.int v69), .val (.int v71), .val (.int v76), .unset, .unset, .unset, .unset, .unset] [])) _
          refine XS.iloadN X51.here hx rfl (hb hby at_230) rfl ?_
          show Steps p.tables e below (T51.setTop (mkF m 231 #[.val (.int p1), .val (.int p2), .val (.int p3), .val (.long q4), .second, .val (.long q5), .second, .val (.int p6), .val (.int f4), .val (.int f9), .val (.int f14), .val (.int f19), .val (.ref b21), .val (.int x47), .val (.int x50), .val (.int v69), .val (.int v71), .val (.int v76), .unset, .unset, .unset, .unset, .unset] [(.int p2)])) _
          refine XS.iloadN X51.here hx rfl (hb hby at_231) rfl ?_
          by_cases hc81 : p2 < p1
          · show Steps p.tables e below (T51.setTop (mkF m 232 #[.val (.int p1), .val (.int p2), .val (.int p3), .val (.long q4), .second, .val (.long q5), .second, .val (.int p6), .val (.int f4), .val (.int f9), .val (.int f14), .val (.int f19), .val (.ref b21), .val (.int x47), .val (.int x50), .val (.int v69), .val (.int v71), .val (.int v76), .unset, .unset, .unset, .unset, .unset] [(.int p1), (.int p2)])) _
            refine XS.icmpNo X51.here hx rfl (hb hby at_232) rfl (tlt hc81).2.1 ?_
            show Steps p.tables e below (T51.setTop (mkF m 235 #[.val (.int p1), .val (.int p2), .val (.int p3), .val (.long q4), .second, .val (.long q5), .second, .val (.int p6), .val (.int f4), .val (.int f9), .val (.int f14), .val (.int f19), .val (.ref b21), .val (.int x47), .val (.int x50), .val (.int v69), .val (.int v71), .val (.int v76), .unset, .unset, .unset, .unset, .unset] [])) _
            refine XS.iconst X51.here hx rfl (hb hby at_235) ?_
            show Steps p.tables e below (T51.setTop (mkF m 236 #[.val (.int p1), .val (.int p2), .val (.int p3), .val (.long q4), .second, .val (.long q5), .second, .val (.int p6), .val (.int f4), .val (.int f9), .val (.int f14), .val (.int f19), .val (.ref b21), .val (.int x47), .val (.int x50), .val (.int v69), .val (.int v71), .val (.int v76), .unset, .unset, .unset, .unset, .unset] [(.int (1 : Int32))])) _
            refine XS.goto X51.here hx rfl (pc0 := 236) (pc' := 240) rfl (hb hby at_236) (by decide) (by decide) ?_
            simp only [if_neg hc79, if_pos hc80, if_pos hc81] at k
            exact k
          · show Steps p.tables e below (T51.setTop (mkF m 232 #[.val (.int p1), .val (.int p2), .val (.int p3), .val (.long q4), .second, .val (.long q5), .second, .val (.int p6), .val (.int f4), .val (.int f9), .val (.int f14), .val (.int f19), .val (.ref b21), .val (.int x47), .val (.int x50), .val (.int v69), .val (.int v71), .val (.int v76), .unset, .unset, .unset, .unset, .unset] [(.int p1), (.int p2)])) _
            refine XS.icmpYes X51.here hx rfl (pc0 := 232) (pc' := 239) rfl (hb hby at_232) rfl (flt hc81).2.1 (by decide) (by decide) ?_
            show Steps p.tables e below (T51.setTop (mkF m 239 #[.val (.int p1), .val (.int p2), .val (.int p3), .val (.long q4), .second, .val (.long q5), .second, .val (.int p6), .val (.int f4), .val (.int f9), .val (.int f14), .val (.int f19), .val (.ref b21), .val (.int x47), .val (.int x50), .val (.int v69), .val (.int v71), .val (.int v76), .unset, .unset, .unset, .unset, .unset] [])) _
            refine XS.iconst X51.here hx rfl (hb hby at_239) ?_
            simp only [if_neg hc79, if_pos hc80, if_neg hc81] at k
            exact k
        · show Steps p.tables e below (T51.setTop (mkF m 227 #[.val (.int p1), .val (.int p2), .val (.int p3), .val (.long q4), .second, .val (.long q5), .second, .val (.int p6), .val (.int f4), .val (.int f9), .val (.int f14), .val (.int f19), .val (.ref b21), .val (.int x47), .val (.int x50), .val (.int v69), .val (.int v71), .val (.int v76), .unset, .unset, .unset, .unset, .unset] [(.int (1 : Int32)), (.int p1)])) _
          refine XS.icmpYes X51.here hx rfl (pc0 := 227) (pc' := 239) rfl (hb hby at_227) rfl (flt hc80).2.2.2 (by decide) (by decide) ?_
          show Steps p.tables e below (T51.setTop (mkF m 239 #[.val (.int p1), .val (.int p2), .val (.int p3), .val (.long q4), .second, .val (.long q5), .second, .val (.int p6), .val (.int f4), .val (.int f9), .val (.int f14), .val (.int f19), .val (.ref b21), .val (.int x47), .val (.int x50), .val (.int v69), .val (.int v71), .val (.int v76), .unset, .unset, .unset, .unset, .unset] [])) _
          refine XS.iconst X51.here hx rfl (hb hby at_239) ?_
          simp only [if_neg hc79, if_neg hc80] at k
          exact k)
  obtain ⟨v83, hv83⟩ : ∃ z, z = (if v76 = (0 : Int32) then (0 : Int32) else (if (1 : Int32) < p1 then (if p2 < p1 then (1 : Int32) else (0 : Int32)) else (0 : Int32))) := ⟨_, rfl⟩
  have pre84 : ∀ t, Steps p.tables e below (T51.setTop (mkF m 240 #[.val (.int p1), .val (.int p2), .val (.int p3), .val (.long q4), .second, .val (.long q5), .second, .val (.int p6), .val (.int f4), .val (.int f9), .val (.int f14), .val (.int f19), .val (.ref b21), .val (.int x47), .val (.int x50), .val (.int v69), .val (.int v71), .val (.int v76), .unset, .unset, .unset, .unset, .unset] [(.int v83)])) t → Steps p.tables e below (s₁.setTop (entryFrame m #[(.int p1), (.int p2), (.int p3), (.long q4), (.long q5), (.int p6)] maxLocals)) t := fun t k => pre82 t (by rw [← hv83]; exact k)
  have pre85 : ∀ t, Steps p.tables e below (T51.setTop (mkF m 244 #[.val (.int p1), .val (.int p2), .val (.int p3), .val (.long q4), .second, .val (.long q5), .second, .val (.int p6), .val (.int f4), .val (.int f9), .val (.int f14), .val (.int f19), .val (.ref b21), .val (.int x47), .val (.int x50), .val (.int v69), .val (.int v71), .val (.int v76), .val (.int v83), .unset, .unset, .unset, .unset] [(.int v76)])) t → Steps p.tables e below (s₁.setTop (entryFrame m #[(.int p1), (.int p2), (.int p3), (.long q4), (.long q5), (.int p6)] maxLocals)) t := fun t k => pre84 t (by
      show Steps p.tables e below (T51.setTop (mkF m 240 #[.val (.int p1), .val (.int p2), .val (.int p3), .val (.long q4), .second, .val (.long q5), .second, .val (.int p6), .val (.int f4), .val (.int f9), .val (.int f14), .val (.int f19), .val (.ref b21), .val (.int x47), .val (.int x50), .val (.int v69), .val (.int v71), .val (.int v76), .unset, .unset, .unset, .unset, .unset] [(.int v83)])) _
      refine XS.istore X51.here hx rfl (hb hby at_240) rfl (l' := #[.val (.int p1), .val (.int p2), .val (.int p3), .val (.long q4), .second, .val (.long q5), .second, .val (.int p6), .val (.int f4), .val (.int f9), .val (.int f14), .val (.int f19), .val (.ref b21), .val (.int x47), .val (.int x50), .val (.int v69), .val (.int v71), .val (.int v76), .val (.int v83), .unset, .unset, .unset, .unset]) rfl ?_
      show Steps p.tables e below (T51.setTop (mkF m 242 #[.val (.int p1), .val (.int p2), .val (.int p3), .val (.long q4), .second, .val (.long q5), .second, .val (.int p6), .val (.int f4), .val (.int f9), .val (.int f14), .val (.int f19), .val (.ref b21), .val (.int x47), .val (.int x50), .val (.int v69), .val (.int v71), .val (.int v76), .val (.int v83), .unset, .unset, .unset, .unset] [])) _
      refine XS.iload X51.here hx rfl (hb hby at_242) rfl ?_
      exact k)
  have pre89 : ∀ t, Steps p.tables e below (T51.setTop (mkF m 262 #[.val (.int p1), .val (.int p2), .val (.int p3), .val (.long q4), .second, .val (.long q5), .second, .val (.int p6), .val (.int f4), .val (.int f9), .val (.int f14), .val (.int f19), .val (.ref b21), .val (.int x47), .val (.int x50), .val (.int v69), .val (.int v71), .val (.int v76), .val (.int v83), .unset, .unset, .unset, .unset] [(.int (if v76 = (0 : Int32) then (0 : Int32) else (if (1 : Int32) < p1 then (if p3 < p1 then (1 : Int32) else (0 : Int32)) else (0 : Int32))))])) t → Steps p.tables e below (s₁.setTop (entryFrame m #[(.int p1), (.int p2), (.int p3), (.long q4), (.long q5), (.int p6)] maxLocals)) t := fun t k => pre85 t (by
      by_cases hc86 : v76 = (0 : Int32)
      · show Steps p.tables e below (T51.setTop (mkF m 244 #[.val (.int p1), .val (.int p2), .val (.int p3), .val (.long q4), .second, .val (.long q5), .second, .val (.int p6), .val (.int f4), .val (.int f9), .val (.int f14), .val (.int f19), .val (.ref b21), .val (.int x47), .val (.int x50), .val (.int v69), .val (.int v71), .val (.int v76), .val (.int v83), .unset, .unset, .unset, .unset] [(.int v76)])) _
        refine XS.ifYes X51.here hx rfl (pc0 := 244) (pc' := 261) rfl (hb hby at_244) rfl ((if0 _ _).trans (teq hc86).1) (by decide) (by decide) ?_
        show Steps p.tables e below (T51.setTop (mkF m 261 #[.val (.int p1), .val (.int p2), .val (.int p3), .val (.long q4), .second, .val (.long q5), .second, .val (.int p6), .val (.int f4), .val (.int f9), .val (.int f14), .val (.int f19), .val (.ref b21), .val (.int x47), .val (.int x50), .val (.int v69), .val (.int v71), .val (.int v76), .val (.int v83), .unset, .unset, .unset, .unset] [])) _
        refine XS.iconst X51.here hx rfl (hb hby at_261) ?_
        simp only [if_pos hc86] at k
        exact k
      · show Steps p.tables e below (T51.setTop (mkF m 244 #[.val (.int p1), .val (.int p2), .val (.int p3), .val (.long q4), .second, .val (.long q5), .second, .val (.int p6), .val (.int f4), .val (.int f9), .val (.int f14), .val (.int f19), .val (.ref b21), .val (.int x47), .val (.int x50), .val (.int v69), .val (.int v71), .val (.int v76), .val (.int v83), .unset, .unset, .unset, .unset] [(.int v76)])) _
        refine XS.ifNo X51.here hx rfl (hb hby at_244) rfl ((if0 _ _).trans (feq hc86).1) ?_
        show Steps p.tables e below (T51.setTop (mkF m 247 #[.val (.int p1), .val (.int p2), .val (.int p3), .val (.long q4), .second, .val (.long q5), .second, .val (.int p6), .val (.int f4), .val (.int f9), .val (.int f14), .val (.int f19), .val (.ref b21), .val (.int x47), .val (.int x50), .val (.int v69), .val (.int v71), .val (.int v76), .val (.int v83), .unset, .unset, .unset, .unset] [])) _
        refine XS.iloadN X51.here hx rfl (hb hby at_247) rfl ?_
        show Steps p.tables e below (T51.setTop (mkF m 248 #[.val (.int p1), .val (.int p2), .val (.int p3), .val (.long q4), .second, .val (.long q5), .second, .val (.int p6), .val (.int f4), .val (.int f9), .val (.int f14), .val (.int f19), .val (.ref b21), .val (.int x47), .val (.int x50), .val (.int v69), .val (.int v71), .val (.int v76), .val (.int v83), .unset, .unset, .unset, .unset] [(.int p1)])) _
        refine XS.iconst X51.here hx rfl (hb hby at_248) ?_
        by_cases hc87 : (1 : Int32) < p1
        · show Steps p.tables e below (T51.setTop (mkF m 249 #[.val (.int p1), .val (.int p2), .val (.int p3), .val (.long q4), .second, .val (.long q5), .second, .val (.int p6), .val (.int f4), .val (.int f9), .val (.int f14), .val (.int f19), .val (.ref b21), .val (.int x47), .val (.int x50), .val (.int v69), .val (.int v71), .val (.int v76), .val (.int v83), .unset, .unset, .unset, .unset] [(.int (1 : Int32)), (.int p1)])) _
          refine XS.icmpNo X51.here hx rfl (hb hby at_249) rfl (tlt hc87).2.2.2 ?_
          show Steps p.tables e below (T51.setTop (mkF m 252 #[.val (.int p1), .val (.int p2), .val (.int p3), .val (.long q4), .second, .val (.long q5), .second, .val (.int p6), .val (.int f4), .val (.int f9), .val (.int f14), .val (.int f19), .val (.ref b21), .val (.int x47), .val (.int x50), .val (.int v69), .val (.int v71), .val (.int v76), .val (.int v83), .unset, .unset, .unset, .unset] [])) _
          refine XS.iloadN X51.here hx rfl (hb hby at_252) rfl ?_
          show Steps p.tables e below (T51.setTop (mkF m 253 #[.val (.int p1), .val (.int p2), .val (.int p3), .val (.long q4), .second, .val (.long q5), .second, .val (.int p6), .val (.int f4), .val (.int f9), .val (.int f14), .val (.int f19), .val (.ref b21), .val (.int x47), .val (.int x50), .val (.int v69), .val (.int v71), .val (.int v76), .val (.int v83), .unset, .unset, .unset, .unset] [(.int p3)])) _
          refine XS.iloadN X51.here hx rfl (hb hby at_253) rfl ?_
          by_cases hc88 : p3 < p1
          · show Steps p.tables e below (T51.setTop (mkF m 254 #[.val (.int p1), .val (.int p2), .val (.int p3), .val (.long q4), .second, .val (.long q5), .second, .val (.int p6), .val (.int f4), .val (.int f9), .val (.int f14), .val (.int f19), .val (.ref b21), .val (.int x47), .val (.int x50), .val (.int v69), .val (.int v71), .val (.int v76), .val (.int v83), .unset, .unset, .unset, .unset] [(.int p1), (.int p3)])) _
            refine XS.icmpNo X51.here hx rfl (hb hby at_254) rfl (tlt hc88).2.1 ?_
            show Steps p.tables e below (T51.setTop (mkF m 257 #[.val (.int p1), .val (.int p2), .val (.int p3), .val (.long q4), .second, .val (.long q5), .second, .val (.int p6), .val (.int f4), .val (.int f9), .val (.int f14), .val (.int f19), .val (.ref b21), .val (.int x47), .val (.int x50), .val (.int v69), .val (.int v71), .val (.int v76), .val (.int v83), .unset, .unset, .unset, .unset] [])) _
            refine XS.iconst X51.here hx rfl (hb hby at_257) ?_
            show Steps p.tables e below (T51.setTop (mkF m 258 #[.val (.int p1), .val (.int p2), .val (.int p3), .val (.long q4), .second, .val (.long q5), .second, .val (.int p6), .val (.int f4), .val (.int f9), .val (.int f14), .val (.int f19), .val (.ref b21), .val (.int x47), .val (.int x50), .val (.int v69), .val (.int v71), .val (.int v76), .val (.int v83), .unset, .unset, .unset, .unset] [(.int (1 : Int32))])) _
            refine XS.goto X51.here hx rfl (pc0 := 258) (pc' := 262) rfl (hb hby at_258) (by decide) (by decide) ?_
            simp only [if_neg hc86, if_pos hc87, if_pos hc88] at k
            exact k
          · show Steps p.tables e below (T51.setTop (mkF m 254 #[.val (.int p1), .val (.int p2), .val (.int p3), .val (.long q4), .second, .val (.long q5), .second, .val (.int p6), .val (.int f4), .val (.int f9), .val (.int f14), .val (.int f19), .val (.ref b21), .val (.int x47), .val (.int x50), .val (.int v69), .val (.int v71), .val (.int v76), .val (.int v83), .unset, .unset, .unset, .unset] [(.int p1), (.int p3)])) _
            refine XS.icmpYes X51.here hx rfl (pc0 := 254) (pc' := 261) rfl (hb hby at_254) rfl (flt hc88).2.1 (by decide) (by decide) ?_
            show Steps p.tables e below (T51.setTop (mkF m 261 #[.val (.int p1), .val (.int p2), .val (.int p3), .val (.long q4), .second, .val (.long q5), .second, .val (.int p6), .val (.int f4), .val (.int f9), .val (.int f14), .val (.int f19), .val (.ref b21), .val (.int x47), .val (.int x50), .val (.int v69), .val (.int v71), .val (.int v76), .val (.int v83), .unset, .unset, .unset, .unset] [])) _
            refine XS.iconst X51.here hx rfl (hb hby at_261) ?_
            simp only [if_neg hc86, if_pos hc87, if_neg hc88] at k
            exact k
        · show Steps p.tables e below (T51.setTop (mkF m 249 #[.val (.int p1), .val (.int p2), .val (.int p3), .val (.long q4), .second, .val (.long q5), .second, .val (.int p6), .val (.int f4), .val (.int f9), .val (.int f14), .val (.int f19), .val (.ref b21), .val (.int x47), .val (.int x50), .val (.int v69), .val (.int v71), .val (.int v76), .val (.int v83), .unset, .unset, .unset, .unset] [(.int (1 : Int32)), (.int p1)])) _
          refine XS.icmpYes X51.here hx rfl (pc0 := 249) (pc' := 261) rfl (hb hby at_249) rfl (flt hc87).2.2.2 (by decide) (by decide) ?_
          show Steps p.tables e below (T51.setTop (mkF m 261 #[.val (.int p1), .val (.int p2), .val (.int p3), .val (.long q4), .second, .val (.long q5), .second, .val (.int p6), .val (.int f4), .val (.int f9), .val (.int f14), .val (.int f19), .val (.ref b21), .val (.int x47), .val (.int x50), .val (.int v69), .val (.int v71), .val (.int v76), .val (.int v83), .unset, .unset, .unset, .unset] [])) _
          refine XS.iconst X51.here hx rfl (hb hby at_261) ?_
          simp only [if_neg hc86, if_neg hc87] at k
          exact k)
  obtain ⟨v90, hv90⟩ : ∃ z, z = (if v76 = (0 : Int32) then (0 : Int32) else (if (1 : Int32) < p1 then (if p3 < p1 then (1 : Int32) else (0 : Int32)) else (0 : Int32))) := ⟨_, rfl⟩
  have pre91 : ∀ t, Steps p.tables e below (T51.setTop (mkF m 262 #[.val (.int p1), .val (.int p2), .val (.int p3), .val (.long q4), .second, .val (.long q5), .second, .val (.int p6), .val (.int f4), .val (.int f9), .val (.int f14), .val (.int f19), .val (.ref b21), .val (.int x47), .val (.int x50), .val (.int v69), .val (.int v71), .val (.int v76), .val (.int v83), .unset, .unset, .unset, .unset] [(.int v90)])) t → Steps p.tables e below (s₁.setTop (entryFrame m #[(.int p1), (.int p2), (.int p3), (.long q4), (.long q5), (.int p6)] maxLocals)) t := fun t k => pre89 t (by rw [← hv90]; exact k)
  have pre92 : ∀ t, Steps p.tables e below (T51.setTop (mkF m 266 #[.val (.int p1), .val (.int p2), .val (.int p3), .val (.long q4), .second, .val (.long q5), .second, .val (.int p6), .val (.int f4), .val (.int f9), .val (.int f14), .val (.int f19), .val (.ref b21), .val (.int x47), .val (.int x50), .val (.int v69), .val (.int v71), .val (.int v76), .val (.int v83), .val (.int v90), .unset, .unset, .unset] [(.int v83)])) t → Steps p.tables e below (s₁.setTop (entryFrame m #[(.int p1), (.int p2), (.int p3), (.long q4), (.long q5), (.int p6)] maxLocals)) t := fun t k => pre91 t (by
      show Steps p.tables e below (T51.setTop (mkF m 262 #[.val (.int p1), .val (.int p2), .val (.int p3), .val (.long q4), .second, .val (.long q5), .second, .val (.int p6), .val (.int f4), .val (.int f9), .val (.int f14), .val (.int f19), .val (.ref b21), .val (.int x47), .val (.int x50), .val (.int v69), .val (.int v71), .val (.int v76), .val (.int v83), .unset, .unset, .unset, .unset] [(.int v90)])) _
      refine XS.istore X51.here hx rfl (hb hby at_262) rfl (l' := #[.val (.int p1), .val (.int p2), .val (.int p3), .val (.long q4), .second, .val (.long q5), .second, .val (.int p6), .val (.int f4), .val (.int f9), .val (.int f14), .val (.int f19), .val (.ref b21), .val (.int x47), .val (.int x50), .val (.int v69), .val (.int v71), .val (.int v76), .val (.int v83), .val (.int v90), .unset, .unset, .unset]) rfl ?_
      show Steps p.tables e below (T51.setTop (mkF m 264 #[.val (.int p1), .val (.int p2), .val (.int p3), .val (.long q4), .second, .val (.long q5), .second, .val (.int p6), .val (.int f4), .val (.int f9), .val (.int f14), .val (.int f19), .val (.ref b21), .val (.int x47), .val (.int x50), .val (.int v69), .val (.int v71), .val (.int v76), .val (.int v83), .val (.int v90), .unset, .unset, .unset] [])) _
      refine XS.iload X51.here hx rfl (hb hby at_264) rfl ?_
      exact k)
  have pre95 : ∀ t, Steps p.tables e below (T51.setTop (mkF m 279 #[.val (.int p1), .val (.int p2), .val (.int p3), .val (.long q4), .second, .val (.long q5), .second, .val (.int p6), .val (.int f4), .val (.int f9), .val (.int f14), .val (.int f19), .val (.ref b21), .val (.int x47), .val (.int x50), .val (.int v69), .val (.int v71), .val (.int v76), .val (.int v83), .val (.int v90), .unset, .unset, .unset] [(.int (if v83 = (0 : Int32) then (0 : Int32) else (if v71 = (0 : Int32) then (1 : Int32) else (0 : Int32))))])) t → Steps p.tables e below (s₁.setTop (entryFrame m #[(.int p1), (.int p2), (.int p3), (.long q4), (.long q5), (.int p6)] maxLocals)) t := fun t k => pre92 t (by
      by_cases hc93 : v83 = (0 : Int32)
      · show Steps p.tables e below (T51.setTop (mkF m 266 #[.val (.int p1), .val (.int p2), .val (.int p3), .val (.long q4), .second, .val (.long q5), .second, .val (.int p6), .val (.int f4), .val (.int f9), .val (.int f14), .val (.int f19), .val (.ref b21), .val (.int x47), .val (.int x50), .val (.int v69), .val (.int v71), .val (.int v76), .val (.int v83), .val (.int v90), .unset, .unset, .unset] [(.int v83)])) _
        refine XS.ifYes X51.here hx rfl (pc0 := 266) (pc' := 278) rfl (hb hby at_266) rfl ((if0 _ _).trans (teq hc93).1) (by decide) (by decide) ?_
        show Steps p.tables e below (T51.setTop (mkF m 278 #[.val (.int p1), .val (.int p2), .val (.int p3), .val (.long q4), .second, .val (.long q5), .second, .val (.int p6), .val (.int f4), .val (.int f9), .val (.int f14), .val (.int f19), .val (.ref b21), .val (.int x47), .val (.int x50), .val (.int v69), .val (.int v71), .val (.int v76), .val (.int v83), .val (.int v90), .unset, .unset, .unset] [])) _
        refine XS.iconst X51.here hx rfl (hb hby at_278) ?_
        simp only [if_pos hc93] at k
        exact k
      · show Steps p.tables e below (T51.setTop (mkF m 266 #[.val (.int p1), .val (.int p2), .val (.int p3), .val (.long q4), .second, .val (.long q5), .second, .val (.int p6), .val (.int f4), .val (.int f9), .val (.int f14), .val (.int f19), .val (.ref b21), .val (.int x47), .val (.int x50), .val (.int v69), .val (.int v71), .val (.int v76), .val (.int v83), .val (.int v90), .unset, .unset, .unset] [(.int v83)])) _
        refine XS.ifNo X51.here hx rfl (hb hby at_266) rfl ((if0 _ _).trans (feq hc93).1) ?_
        show Steps p.tables e below (T51.setTop (mkF m 269 #[.val (.int p1), .val (.int p2), .val (.int p3), .val (.long q4), .second, .val (.long q5), .second, .val (.int p6), .val (.int f4), .val (.int f9), .val (.int f14), .val (.int f19), .val (.ref b21), .val (.int x47), .val (.int x50), .val (.int v69), .val (.int v71), .val (.int v76), .val (.int v83), .val (.int v90), .unset, .unset, .unset] [])) _
        refine XS.iload X51.here hx rfl (hb hby at_269) rfl ?_
        by_cases hc94 : v71 = (0 : Int32)
        · show Steps p.tables e below (T51.setTop (mkF m 271 #[.val (.int p1), .val (.int p2), .val (.int p3), .val (.long q4), .second, .val (.long q5), .second, .val (.int p6), .val (.int f4), .val (.int f9), .val (.int f14), .val (.int f19), .val (.ref b21), .val (.int x47), .val (.int x50), .val (.int v69), .val (.int v71), .val (.int v76), .val (.int v83), .val (.int v90), .unset, .unset, .unset] [(.int v71)])) _
          refine XS.ifNo X51.here hx rfl (hb hby at_271) rfl ((if0 _ _).trans (teq hc94).2) ?_
          show Steps p.tables e below (T51.setTop (mkF m 274 #[.val (.int p1), .val (.int p2), .val (.int p3), .val (.long q4), .second, .val (.long q5), .second, .val (.int p6), .val (.int f4), .val (.int f9), .val (.int f14), .val (.int f19), .val (.ref b21), .val (.int x47), .val (.int x50), .val (.int v69), .val (.int v71), .val (.int v76), .val (.int v83), .val (.int v90), .unset, .unset, .unset] [])) _
          refine XS.iconst X51.here hx rfl (hb hby at_274) ?_
          show Steps p.tables e below (T51.setTop (mkF m 275 #[.val (.int p1), .val (.int p2), .val (.int p3), .val (.long q4), .second, .val (.long q5), .second, .val (.int p6), .val (.int f4), .val (.int f9), .val (.int f14), .val (.int f19), .val (.ref b21), .val (.int x47), .val (.int x50), .val (.int v69), .val (.int v71), .val (.int v76), .val (.int v83), .val (.int v90), .unset, .unset, .unset] [(.int (1 : Int32))])) _
          refine XS.goto X51.here hx rfl (pc0 := 275) (pc' := 279) rfl (hb hby at_275) (by decide) (by decide) ?_
          simp only [if_neg hc93, if_pos hc94] at k
          exact k
        · show Steps p.tables e below (T51.setTop (mkF m 271 #[.val (.int p1), .val (.int p2), .val (.int p3), .val (.long q4), .second, .val (.long q5), .second, .val (.int p6), .val (.int f4), .val (.int f9), .val (.int f14), .val (.int f19), .val (.ref b21), .val (.int x47), .val (.int x50), .val (.int v69), .val (.int v71), .val (.int v76), .val (.int v83), .val (.int v90), .unset, .unset, .unset] [(.int v71)])) _
          refine XS.ifYes X51.here hx rfl (pc0 := 271) (pc' := 278) rfl (hb hby at_271) rfl ((if0 _ _).trans (feq hc94).2) (by decide) (by decide) ?_
          show Steps p.tables e below (T51.setTop (mkF m 278 #[.val (.int p1), .val (.int p2), .val (.int p3), .val (.long q4), .second, .val (.long q5), .second, .val (.int p6), .val (.int f4), .val (.int f9), .val (.int f14), .val (.int f19), .val (.ref b21), .val (.int x47), .val (.int x50), .val (.int v69), .val (.int v71), .val (.int v76), .val (.int v83), .val (.int v90), .unset, .unset, .unset] [])) _
          refine XS.iconst X51.here hx rfl (hb hby at_278) ?_
          simp only [if_neg hc93, if_neg hc94] at k
          exact k)
  obtain ⟨v96, hv96⟩ : ∃ z, z = (if v83 = (0 : Int32) then (0 : Int32) else (if v71 = (0 : Int32) then (1 : Int32) else (0 : Int32))) := ⟨_, rfl⟩
  have pre97 : ∀ t, Steps p.tables e below (T51.setTop (mkF m 279 #[.val (.int p1), .val (.int p2), .val (.int p3), .val (.long q4), .second, .val (.long q5), .second, .val (.int p6), .val (.int f4), .val (.int f9), .val (.int f14), .val (.int f19), .val (.ref b21), .val (.int x47), .val (.int x50), .val (.int v69), .val (.int v71), .val (.int v76), .val (.int v83), .val (.int v90), .unset, .unset, .unset] [(.int v96)])) t → Steps p.tables e below (s₁.setTop (entryFrame m #[(.int p1), (.int p2), (.int p3), (.long q4), (.long q5), (.int p6)] maxLocals)) t := fun t k => pre95 t (by rw [← hv96]; exact k)
  have pre98 : ∀ t, Steps p.tables e below (T51.setTop (mkF m 287 #[.val (.int p1), .val (.int p2), .val (.int p3), .val (.long q4), .second, .val (.long q5), .second, .val (.int p6), .val (.int f4), .val (.int f9), .val (.int f14), .val (.int f19), .val (.ref b21), .val (.int x47), .val (.int x50), .val (.int v69), .val (.int v71), .val (.int v76), .val (.int v83), .val (.int v90), .val (.int v96), .val (.int v71), .unset] [(.int v83)])) t → Steps p.tables e below (s₁.setTop (entryFrame m #[(.int p1), (.int p2), (.int p3), (.long q4), (.long q5), (.int p6)] maxLocals)) t := fun t k => pre97 t (by
      show Steps p.tables e below (T51.setTop (mkF m 279 #[.val (.int p1), .val (.int p2), .val (.int p3), .val (.long q4), .second, .val (.long q5), .second, .val (.int p6), .val (.int f4), .val (.int f9), .val (.int f14), .val (.int f19), .val (.ref b21), .val (.int x47), .val (.int x50), .val (.int v69), .val (.int v71), .val (.int v76), .val (.int v83), .val (.int v90), .unset, .unset, .unset] [(.int v96)])) _
      refine XS.istore X51.here hx rfl (hb hby at_279) rfl (l' := #[.val (.int p1), .val (.int p2), .val (.int p3), .val (.long q4), .second, .val (.long q5), .second, .val (.int p6), .val (.int f4), .val (.int f9), .val (.int f14), .val (.int f19), .val (.ref b21), .val (.int x47), .val (.int x50), .val (.int v69), .val (.int v71), .val (.int v76), .val (.int v83), .val (.int v90), .val (.int v96), .unset, .unset]) rfl ?_
      show Steps p.tables e below (T51.setTop (mkF m 281 #[.val (.int p1), .val (.int p2), .val (.int p3), .val (.long q4), .second, .val (.long q5), .second, .val (.int p6), .val (.int f4), .val (.int f9), .val (.int f14), .val (.int f19), .val (.ref b21), .val (.int x47), .val (.int x50), .val (.int v69), .val (.int v71), .val (.int v76), .val (.int v83), .val (.int v90), .val (.int v96), .unset, .unset] [])) _
      refine XS.iload X51.here hx rfl (hb hby at_281) rfl ?_
      show Steps p.tables e below (T51.setTop (mkF m 283 #[.val (.int p1), .val (.int p2), .val (.int p3), .val (.long q4), .second, .val (.long q5), .second, .val (.int p6), .val (.int f4), .val (.int f9), .val (.int f14), .val (.int f19), .val (.ref b21), .val (.int x47), .val (.int x50), .val (.int v69), .val (.int v71), .val (.int v76), .val (.int v83), .val (.int v90), .val (.int v96), .unset, .unset] [(.int v71)])) _
      refine XS.istore X51.here hx rfl (hb hby at_283) rfl (l' := #[.val (.int p1), .val (.int p2), .val (.int p3), .val (.long q4), .second, .val (.long q5), .second, .val (.int p6), .val (.int f4), .val (.int f9), .val (.int f14), .val (.int f19), .val (.ref b21), .val (.int x47), .val (.int x50), .val (.int v69), .val (.int v71), .val (.int v76), .val (.int v83), .val (.int v90), .val (.int v96), .val (.int v71), .unset]) rfl ?_
      show Steps p.tables e below (T51.setTop (mkF m 285 #[.val (.int p1), .val (.int p2), .val (.int p3), .val (.long q4), .second, .val (.long q5), .second, .val (.int p6), .val (.int f4), .val (.int f9), .val (.int f14), .val (.int f19), .val (.ref b21), .val (.int x47), .val (.int x50), .val (.int v69), .val (.int v71), .val (.int v76), .val (.int v83), .val (.int v90), .val (.int v96), .val (.int v71), .unset] [])) _
      refine XS.iload X51.here hx rfl (hb hby at_285) rfl ?_
      exact k)
  have pre101 : ∀ t, Steps p.tables e below (T51.setTop (mkF m 301 #[.val (.int p1), .val (.int p2), .val (.int p3), .val (.long q4), .second, .val (.long q5), .second, .val (.int p6), .val (.int f4), .val (.int f9), .val (.int f14), .val (.int f19), .val (.ref b21), .val (.int x47), .val (.int x50), .val (.int v69), .val (.int v71), .val (.int v76), .val (.int v83), .val (.int v90), .val (.int v96), .val (.int (if v83 = (0 : Int32) then v71 else (if (0 : Int32) < v71 then (v71 - (1 : Int32)) else v71))), .unset] [])) t → Steps p.tables e below (s₁.setTop (entryFrame m #[(.int p1), (.int p2), (.int p3), (.long q4), (.long q5), (.int p6)] maxLocals)) t := fun t k => pre98 t (by
      by_cases hc99 : v83 = (0 : Int32)
      · show Steps p.tables e below (T51.setTop (mkF m 287 #[.val (.int p1), .val (.int p2), .val (.int p3), .val (.long q4), .second, .val (.long q5), .second, .val (.int p6), .val (.int f4), .val (.int f9), .val (.int f14), .val (.int f19), .val (.ref b21), .val (.int x47), .val (.int x50), .val (.int v69), .val (.int v71), .val (.int v76), .val (.int v83), .val (.int v90), .val (.int v96), .val (.int v71), .unset] [(.int v83)])) _
        refine XS.ifYes X51.here hx rfl (pc0 := 287) (pc' := 301) rfl (hb hby at_287) rfl ((if0 _ _).trans (teq hc99).1) (by decide) (by decide) ?_
        simp only [if_pos hc99] at k
        exact k
      · show Steps p.tables e below (T51.setTop (mkF m 287 #[.val (.int p1), .val (.int p2), .val (.int p3), .val (.long q4), .second, .val (.long q5), .second, .val (.int p6), .val (.int f4), .val (.int f9), .val (.int f14), .val (.int f19), .val (.ref b21), .val (.int x47), .val (.int x50), .val (.int v69), .val (.int v71), .val (.int v76), .val (.int v83), .val (.int v90), .val (.int v96), .val (.int v71), .unset] [(.int v83)])) _
        refine XS.ifNo X51.here hx rfl (hb hby at_287) rfl ((if0 _ _).trans (feq hc99).1) ?_
        show Steps p.tables e below (T51.setTop (mkF m 290 #[.val (.int p1), .val (.int p2), .val (.int p3), .val (.long q4), .second, .val (.long q5), .second, .val (.int p6), .val (.int f4), .val (.int f9), .val (.int f14), .val (.int f19), .val (.ref b21), .val (.int x47), .val (.int x50), .val (.int v69), .val (.int v71), .val (.int v76), .val (.int v83), .val (.int v90), .val (.int v96), .val (.int v71), .unset] [])) _
        refine XS.iload X51.here hx rfl (hb hby at_290) rfl ?_
        by_cases hc100 : (0 : Int32) < v71
        · show Steps p.tables e below (T51.setTop (mkF m 292 #[.val (.int p1), .val (.int p2), .val (.int p3), .val (.long q4), .second, .val (.long q5), .second, .val (.int p6), .val (.int f4), .val (.int f9), .val (.int f14), .val (.int f19), .val (.ref b21), .val (.int x47), .val (.int x50), .val (.int v69), .val (.int v71), .val (.int v76), .val (.int v83), .val (.int v90), .val (.int v96), .val (.int v71), .unset] [(.int v71)])) _
          refine XS.ifNo X51.here hx rfl (hb hby at_292) rfl ((if0 _ _).trans (tlt hc100).2.2.2) ?_
          show Steps p.tables e below (T51.setTop (mkF m 295 #[.val (.int p1), .val (.int p2), .val (.int p3), .val (.long q4), .second, .val (.long q5), .second, .val (.int p6), .val (.int f4), .val (.int f9), .val (.int f14), .val (.int f19), .val (.ref b21), .val (.int x47), .val (.int x50), .val (.int v69), .val (.int v71), .val (.int v76), .val (.int v83), .val (.int v90), .val (.int v96), .val (.int v71), .unset] [])) _
          refine XS.iload X51.here hx rfl (hb hby at_295) rfl ?_
          show Steps p.tables e below (T51.setTop (mkF m 297 #[.val (.int p1), .val (.int p2), .val (.int p3), .val (.long q4), .second, .val (.long q5), .second, .val (.int p6), .val (.int f4), .val (.int f9), .val (.int f14), .val (.int f19), .val (.ref b21), .val (.int x47), .val (.int x50), .val (.int v69), .val (.int v71), .val (.int v76), .val (.int v83), .val (.int v90), .val (.int v96), .val (.int v71), .unset] [(.int v71)])) _
          refine XS.iconst X51.here hx rfl (hb hby at_297) ?_
          show Steps p.tables e below (T51.setTop (mkF m 298 #[.val (.int p1), .val (.int p2), .val (.int p3), .val (.long q4), .second, .val (.long q5), .second, .val (.int p6), .val (.int f4), .val (.int f9), .val (.int f14), .val (.int f19), .val (.ref b21), .val (.int x47), .val (.int x50), .val (.int v69), .val (.int v71), .val (.int v76), .val (.int v83), .val (.int v90), .val (.int v96), .val (.int v71), .unset] [(.int (1 : Int32)), (.int v71)])) _
          refine XS.isub X51.here hx rfl (hb hby at_298) rfl ?_
          show Steps p.tables e below (T51.setTop (mkF m 299 #[.val (.int p1), .val (.int p2), .val (.int p3), .val (.long q4), .second, .val (.long q5), .second, .val (.int p6), .val (.int f4), .val (.int f9), .val (.int f14), .val (.int f19), .val (.ref b21), .val (.int x47), .val (.int x50), .val (.int v69), .val (.int v71), .val (.int v76), .val (.int v83), .val (.int v90), .val (.int v96), .val (.int v71), .unset] [(.int (v71 - (1 : Int32)))])) _
          refine XS.istore X51.here hx rfl (hb hby at_299) rfl (l' := #[.val (.int p1), .val (.int p2), .val (.int p3), .val (.long q4), .second, .val (.long q5), .second, .val (.int p6), .val (.int f4), .val (.int f9), .val (.int f14), .val (.int f19), .val (.ref b21), .val (.int x47), .val (.int x50), .val (.int v69), .val (.int v71), .val (.int v76), .val (.int v83), .val (.int v90), .val (.int v96), .val (.int (v71 - (1 : Int32))), .unset]) rfl ?_
          simp only [if_neg hc99, if_pos hc100] at k
          exact k
        · show Steps p.tables e below (T51.setTop (mkF m 292 #[.val (.int p1), .val (.int p2), .val (.int p3), .val (.long q4), .second, .val (.long q5), .second, .val (.int p6), .val (.int f4), .val (.int f9), .val (.int f14), .val (.int f19), .val (.ref b21), .val (.int x47), .val (.int x50), .val (.int v69), .val (.int v71), .val (.int v76), .val (.int v83), .val (.int v90), .val (.int v96), .val (.int v71), .unset] [(.int v71)])) _
          refine XS.ifYes X51.here hx rfl (pc0 := 292) (pc' := 301) rfl (hb hby at_292) rfl ((if0 _ _).trans (flt hc100).2.2.2) (by decide) (by decide) ?_
          simp only [if_neg hc99, if_neg hc100] at k
          exact k)
  obtain ⟨v102, hv102⟩ : ∃ z, z = (if v83 = (0 : Int32) then v71 else (if (0 : Int32) < v71 then (v71 - (1 : Int32)) else v71)) := ⟨_, rfl⟩
  have pre103 : ∀ t, Steps p.tables e below (T51.setTop (mkF m 301 #[.val (.int p1), .val (.int p2), .val (.int p3), .val (.long q4), .second, .val (.long q5), .second, .val (.int p6), .val (.int f4), .val (.int f9), .val (.int f14), .val (.int f19), .val (.ref b21), .val (.int x47), .val (.int x50), .val (.int v69), .val (.int v71), .val (.int v76), .val (.int v83), .val (.int v90), .val (.int v96), .val (.int v102), .unset] [])) t → Steps p.tables e below (s₁.setTop (entryFrame m #[(.int p1), (.int p2), (.int p3), (.long q4), (.long q5), (.int p6)] maxLocals)) t := fun t k => pre101 t (by rw [← hv102]; exact k)
  have pre104 : ∀ t, Steps p.tables e below (T51.setTop (mkF m 303 #[.val (.int p1), .val (.int p2), .val (.int p3), .val (.long q4), .second, .val (.long q5), .second, .val (.int p6), .val (.int f4), .val (.int f9), .val (.int f14), .val (.int f19), .val (.ref b21), .val (.int x47), .val (.int x50), .val (.int v69), .val (.int v71), .val (.int v76), .val (.int v83), .val (.int v90), .val (.int v96), .val (.int v102), .unset] [(.int v90)])) t → Steps p.tables e below (s₁.setTop (entryFrame m #[(.int p1), (.int p2), (.int p3), (.long q4), (.long q5), (.int p6)] maxLocals)) t := fun t k => pre103 t (by
      show Steps p.tables e below (T51.setTop (mkF m 301 #[.val (.int p1), .val (.int p2), .val (.int p3), .val (.long q4), .second, .val (.long q5), .second, .val (.int p6), .val (.int f4), .val (.int f9), .val (.int f14), .val (.int f19), .val (.ref b21), .val (.int x47), .val (.int x50), .val (.int v69), .val (.int v71), .val (.int v76), .val (.int v83), .val (.int v90), .val (.int v96), .val (.int v102), .unset] [])) _
      refine XS.iload X51.here hx rfl (hb hby at_301) rfl ?_
      exact k)
  have pre107 : ∀ t, Steps p.tables e below (T51.setTop (mkF m 316 #[.val (.int p1), .val (.int p2), .val (.int p3), .val (.long q4), .second, .val (.long q5), .second, .val (.int p6), .val (.int f4), .val (.int f9), .val (.int f14), .val (.int f19), .val (.ref b21), .val (.int x47), .val (.int x50), .val (.int v69), .val (.int v71), .val (.int v76), .val (.int v83), .val (.int v90), .val (.int v96), .val (.int v102), .unset] [(.int (if v90 = (0 : Int32) then (0 : Int32) else (if v102 = (0 : Int32) then (1 : Int32) else (0 : Int32))))])) t → Steps p.tables e below (s₁.setTop (entryFrame m #[(.int p1), (.int p2), (.int p3), (.long q4), (.long q5), (.int p6)] maxLocals)) t := fun t k => pre104 t (by
      by_cases hc105 : v90 = (0 : Int32)
      · show Steps p.tables e below (T51.setTop (mkF m 303 #[.val (.int p1), .val (.int p2), .val (.int p3), .val (.long q4), .second, .val (.long q5), .second, .val (.int p6), .val (.int f4), .val (.int f9), .val (.int f14), .val (.int f19), .val (.ref b21), .val (.int x47), .val (.int x50), .val (.int v69), .val (.int v71), .val (.int v76), .val (.int v83), .val (.int v90), .val (.int v96), .val (.int v102), .unset] [(.int v90)])) _
        refine XS.ifYes X51.here hx rfl (pc0 := 303) (pc' := 315) rfl (hb hby at_303) rfl ((if0 _ _).trans (teq hc105).1) (by decide) (by decide) ?_
        show Steps p.tables e below (T51.setTop (mkF m 315 #[.val (.int p1), .val (.int p2), .val (.int p3), .val (.long q4), .second, .val (.long q5), .second, .val (.int p6), .val (.int f4), .val (.int f9), .val (.int f14), .val (.int f19), .val (.ref b21), .val (.int x47), .val (.int x50), .val (.int v69), .val (.int v71), .val (.int v76), .val (.int v83), .val (.int v90), .val (.int v96), .val (.int v102), .unset] [])) _
        refine XS.iconst X51.here hx rfl (hb hby at_315) ?_
        simp only [if_pos hc105] at k
        exact k
      · show Steps p.tables e below (T51.setTop (mkF m 303 #[.val (.int p1), .val (.int p2), .val (.int p3), .val (.long q4), .second, .val (.long q5), .second, .val (.int p6), .val (.int f4), .val (.int f9), .val (.int f14), .val (.int f19), .val (.ref b21), .val (.int x47), .val (.int x50), .val (.int v69), .val (.int v71), .val (.int v76), .val (.int v83), .val (.int v90), .val (.int v96), .val (.int v102), .unset] [(.int v90)])) _
        refine XS.ifNo X51.here hx rfl (hb hby at_303) rfl ((if0 _ _).trans (feq hc105).1) ?_
        show Steps p.tables e below (T51.setTop (mkF m 306 #[.val (.int p1), .val (.int p2), .val (.int p3), .val (.long q4), .second, .val (.long q5), .second, .val (.int p6), .val (.int f4), .val (.int f9), .val (.int f14), .val (.int f19), .val (.ref b21), .val (.int x47), .val (.int x50), .val (.int v69), .val (.int v71), .val (.int v76), .val (.int v83), .val (.int v90), .val (.int v96), .val (.int v102), .unset] [])) _
        refine XS.iload X51.here hx rfl (hb hby at_306) rfl ?_
        by_cases hc106 : v102 = (0 : Int32)
        · show Steps p.tables e below (T51.setTop (mkF m 308 #[.val (.int p1), .val (.int p2), .val (.int p3), .val (.long q4), .second, .val (.long q5), .second, .val (.int p6), .val (.int f4), .val (.int f9), .val (.int f14), .val (.int f19), .val (.ref b21), .val (.int x47), .val (.int x50), .val (.int v69), .val (.int v71), .val (.int v76), .val (.int v83), .val (.int v90), .val (.int v96), .val (.int v102), .unset] [(.int v102)])) _
          refine XS.ifNo X51.here hx rfl (hb hby at_308) rfl ((if0 _ _).trans (teq hc106).2) ?_
          show Steps p.tables e below (T51.setTop (mkF m 311 #[.val (.int p1), .val (.int p2), .val (.int p3), .val (.long q4), .second, .val (.long q5), .second, .val (.int p6), .val (.int f4), .val (.int f9), .val (.int f14), .val (.int f19), .val (.ref b21), .val (.int x47), .val (.int x50), .val (.int v69), .val (.int v71), .val (.int v76), .val (.int v83), .val (.int v90), .val (.int v96), .val (.int v102), .unset] [])) _
          refine XS.iconst X51.here hx rfl (hb hby at_311) ?_
          show Steps p.tables e below (T51.setTop (mkF m 312 #[.val (.int p1), .val (.int p2), .val (.int p3), .val (.long q4), .second, .val (.long q5), .second, .val (.int p6), .val (.int f4), .val (.int f9), .val (.int f14), .val (.int f19), .val (.ref b21), .val (.int x47), .val (.int x50), .val (.int v69), .val (.int v71), .val (.int v76), .val (.int v83), .val (.int v90), .val (.int v96), .val (.int v102), .unset] [(.int (1 : Int32))])) _
          refine XS.goto X51.here hx rfl (pc0 := 312) (pc' := 316) rfl (hb hby at_312) (by decide) (by decide) ?_
          simp only [if_neg hc105, if_pos hc106] at k
          exact k
        · show Steps p.tables e below (T51.setTop (mkF m 308 #[.val (.int p1), .val (.int p2), .val (.int p3), .val (.long q4), .second, .val (.long q5), .second, .val (.int p6), .val (.int f4), .val (.int f9), .val (.int f14), .val (.int f19), .val (.ref b21), .val (.int x47), .val (.int x50), .val (.int v69), .val (.int v71), .val (.int v76), .val (.int v83), .val (.int v90), .val (.int v96), .val (.int v102), .unset] [(.int v102)])) _
          refine XS.ifYes X51.here hx rfl (pc0 := 308) (pc' := 315) rfl (hb hby at_308) rfl ((if0 _ _).trans (feq hc106).2) (by decide) (by decide) ?_
          show Steps p.tables e below (T51.setTop (mkF m 315 #[.val (.int p1), .val (.int p2), .val (.int p3), .val (.long q4), .second, .val (.long q5), .second, .val (.int p6), .val (.int f4), .val (.int f9), .val (.int f14), .val (.int f19), .val (.ref b21), .val (.int x47), .val (.int x50), .val (.int v69), .val (.int v71), .val (.int v76), .val (.int v83), .val (.int v90), .val (.int v96), .val (.int v102), .unset] [])) _
          refine XS.iconst X51.here hx rfl (hb hby at_315) ?_
          simp only [if_neg hc105, if_neg hc106] at k
          exact k)
  obtain ⟨v108, hv108⟩ : ∃ z, z = (if v90 = (0 : Int32) then (0 : Int32) else (if v102 = (0 : Int32) then (1 : Int32) else (0 : Int32))) := ⟨_, rfl⟩
  have pre109 : ∀ t, Steps p.tables e below (T51.setTop (mkF m 316 #[.val (.int p1), .val (.int p2), .val (.int p3), .val (.long q4), .second, .val (.long q5), .second, .val (.int p6), .val (.int f4), .val (.int f9), .val (.int f14), .val (.int f19), .val (.ref b21), .val (.int x47), .val (.int x50), .val (.int v69), .val (.int v71), .val (.int v76), .val (.int v83), .val (.int v90), .val (.int v96), .val (.int v102), .unset] [(.int v108)])) t → Steps p.tables e below (s₁.setTop (entryFrame m #[(.int p1), (.int p2), (.int p3), (.long q4), (.long q5), (.int p6)] maxLocals)) t := fun t k => pre107 t (by rw [← hv108]; exact k)
  have D1 : (x29 = 0 ∧ x30 = 0 ∧ v56 = 0) ∨ (x29 = 1 ∧ x30 = 1 ∧ v56 = 1) := by
    rw [← hx29, ← hx30, hv56]; unfold boF unF
    by_cases g1 : f4 = (0 : Int32)
    · simp only [if_pos g1]; exact Or.inl ⟨rfl, rfl, trivial⟩
    · by_cases g2 : (lcmpW q4 (80000 : Int64)) < (0 : Int32)
      · simp only [if_neg g1, if_pos g2]; exact Or.inr ⟨rfl, rfl, trivial⟩
      · simp only [if_neg g1, if_neg g2]; exact Or.inl ⟨rfl, rfl, trivial⟩
  have D2 : ((if f14 = (0 : Int32) then x29 else (foF f19 x29)) = 0 ∧ v62 = 0) ∨ ((if f14 = (0 : Int32) then x29 else (foF f19 x29)) = 1 ∧ v62 = 1) := by
    rw [hv62]; unfold foF
    by_cases g1 : f14 = (0 : Int32)
    · simp only [if_pos g1]
      rcases D1 with ⟨q1, -, q3⟩ | ⟨q1, -, q3⟩
      · rw [q1, q3]; exact Or.inl ⟨rfl, rfl⟩
      · rw [q1, q3]; exact Or.inr ⟨rfl, rfl⟩
    · by_cases g2 : f19 = (0 : Int32)
      · simp only [if_neg g1, if_pos g2]
        rcases D1 with ⟨q1, -, q3⟩ | ⟨q1, -, q3⟩
        · rw [q1, q3]; exact Or.inl ⟨rfl, rfl⟩
        · rw [q1, q3]; exact Or.inl ⟨rfl, rfl⟩
      · simp only [if_neg g1, if_neg g2]
        rcases D1 with ⟨q1, -, q3⟩ | ⟨q1, -, q3⟩
        · rw [q1, q3]; exact Or.inl ⟨rfl, rfl⟩
        · rw [q1, q3]; exact Or.inr ⟨rfl, rfl⟩
  have D3 : x44 = v71 ∧ (v71 = 0 ∨ v71 = 1 ∨ v71 = 2) := by
    rw [← hx44, hv71]; unfold unF
    by_cases g1 : f9 = (0 : Int32)
    · simp only [if_pos g1]
      rcases D1 with ⟨-, q2, q3⟩ | ⟨-, q2, q3⟩
      · rw [q2, q3]; exact ⟨rfl, Or.inl rfl⟩
      · rw [q2, q3]; exact ⟨rfl, Or.inr (Or.inl rfl)⟩
    · by_cases g2 : (lcmpW q5 (80000 : Int64)) < (0 : Int32)
      · simp only [if_neg g1, if_pos g2]
        rcases D2 with ⟨q1, q2⟩ | ⟨q1, q2⟩
        · rw [q1, q2]; exact ⟨rfl, Or.inr (Or.inl rfl)⟩
        · rw [q1, q2]; exact ⟨rfl, Or.inr (Or.inr rfl)⟩
      · simp only [if_neg g1, if_neg g2]
        rcases D1 with ⟨-, q2, q3⟩ | ⟨-, q2, q3⟩
        · rw [q2, q3]; exact ⟨rfl, Or.inl rfl⟩
        · rw [q2, q3]; exact ⟨rfl, Or.inr (Or.inl rfl)⟩
  have D4 : x42 = v76 := by rw [← hx42, hv76]; rfl
  have D5 : x47 = v96 := by
    rw [← hx47, D4, D3.1, hv96, hv83]; unfold plF
    by_cases g1 : v76 = (0 : Int32)
    · simp only [if_pos g1]; rfl
    · by_cases g2 : (1 : Int32) < p1
      · by_cases g3 : p2 < p1
        · simp only [if_neg g1, if_pos g2, if_pos g3]
          rcases D3.2 with q | q | q
          · rw [q]; rfl
          · rw [q]; rfl
          · rw [q]; rfl
        · simp only [if_neg g1, if_pos g2, if_neg g3]; rfl
      · simp only [if_neg g1, if_neg g2]; rfl
  have D6 : x46 = v102 ∧ (v102 = 0 ∨ v102 = 1 ∨ v102 = 2) := by
    rw [← hx46, D4, D3.1, hv102, hv83]; unfold unP
    by_cases g1 : v76 = (0 : Int32)
    · simp only [if_pos g1]; exact ⟨rfl, D3.2⟩
    · by_cases g2 : (1 : Int32) < p1
      · by_cases g3 : p2 < p1
        · simp only [if_neg g1, if_pos g2, if_pos g3]
          rcases D3.2 with q | q | q
          · rw [q]; decide
          · rw [q]; decide
          · rw [q]; decide
        · simp only [if_neg g1, if_pos g2, if_neg g3]; exact ⟨rfl, D3.2⟩
      · simp only [if_neg g1, if_neg g2]; exact ⟨rfl, D3.2⟩
  have D7 : x50 = v108 := by
    rw [← hx50, D4, D6.1, hv108, hv90]; unfold plF
    by_cases g1 : v76 = (0 : Int32)
    · simp only [if_pos g1]; rfl
    · by_cases g2 : (1 : Int32) < p1
      · by_cases g3 : p3 < p1
        · simp only [if_neg g1, if_pos g2, if_pos g3]
          rcases D6.2 with q | q | q
          · rw [q]; rfl
          · rw [q]; rfl
          · rw [q]; rfl
        · simp only [if_neg g1, if_pos g2, if_neg g3]; rfl
      · simp only [if_neg g1, if_neg g2]; rfl
  obtain ⟨fs, hr, hrun, hended, hW, hsame⟩ := X51.leave (v := some (.int (1 : Int32))) (fun h => by rw [Bd.returns] at h; cases h)
  refine ⟨_, _, pre109 _ ?_, hrun, hended, _, _, rfl, ?_, ⟨_, rfl⟩, hW, hsame.mono (by decide) (by decide)⟩
  · show Steps p.tables e below (T51.setTop (mkF m 316 #[.val (.int p1), .val (.int p2), .val (.int p3), .val (.long q4), .second, .val (.long q5), .second, .val (.int p6), .val (.int f4), .val (.int f9), .val (.int f14), .val (.int f19), .val (.ref b21), .val (.int x47), .val (.int x50), .val (.int v69), .val (.int v71), .val (.int v76), .val (.int v83), .val (.int v90), .val (.int v96), .val (.int v102), .unset] [(.int v108)])) _
    refine XS.istore X51.here hx rfl (hb hby at_316) rfl (l' := #[.val (.int p1), .val (.int p2), .val (.int p3), .val (.long q4), .second, .val (.long q5), .second, .val (.int p6), .val (.int f4), .val (.int f9), .val (.int f14), .val (.int f19), .val (.ref b21), .val (.int x47), .val (.int x50), .val (.int v69), .val (.int v71), .val (.int v76), .val (.int v83), .val (.int v90), .val (.int v96), .val (.int v102), .val (.int v108)]) rfl ?_
    show Steps p.tables e below (T51.setTop (mkF m 318 #[.val (.int p1), .val (.int p2), .val (.int p3), .val (.long q4), .second, .val (.long q5), .second, .val (.int p6), .val (.int f4), .val (.int f9), .val (.int f14), .val (.int f19), .val (.ref b21), .val (.int x47), .val (.int x50), .val (.int v69), .val (.int v71), .val (.int v76), .val (.int v83), .val (.int v90), .val (.int v96), .val (.int v102), .val (.int v108)] [])) _
    refine XS.iload X51.here hx rfl (hb hby at_318) rfl ?_
    show Steps p.tables e below (T51.setTop (mkF m 320 #[.val (.int p1), .val (.int p2), .val (.int p3), .val (.long q4), .second, .val (.long q5), .second, .val (.int p6), .val (.int f4), .val (.int f9), .val (.int f14), .val (.int f19), .val (.ref b21), .val (.int x47), .val (.int x50), .val (.int v69), .val (.int v71), .val (.int v76), .val (.int v83), .val (.int v90), .val (.int v96), .val (.int v102), .val (.int v108)] [(.int x47)])) _
    refine XS.iload X51.here hx rfl (hb hby at_320) rfl ?_
    show Steps p.tables e below (T51.setTop (mkF m 322 #[.val (.int p1), .val (.int p2), .val (.int p3), .val (.long q4), .second, .val (.long q5), .second, .val (.int p6), .val (.int f4), .val (.int f9), .val (.int f14), .val (.int f19), .val (.ref b21), .val (.int x47), .val (.int x50), .val (.int v69), .val (.int v71), .val (.int v76), .val (.int v83), .val (.int v90), .val (.int v96), .val (.int v102), .val (.int v108)] [(.int v96), (.int x47)])) _
    refine XS.icmpNo X51.here hx rfl (hb hby at_322) rfl (teq D5).2 ?_
    show Steps p.tables e below (T51.setTop (mkF m 325 #[.val (.int p1), .val (.int p2), .val (.int p3), .val (.long q4), .second, .val (.long q5), .second, .val (.int p6), .val (.int f4), .val (.int f9), .val (.int f14), .val (.int f19), .val (.ref b21), .val (.int x47), .val (.int x50), .val (.int v69), .val (.int v71), .val (.int v76), .val (.int v83), .val (.int v90), .val (.int v96), .val (.int v102), .val (.int v108)] [])) _
    refine XS.iload X51.here hx rfl (hb hby at_325) rfl ?_
    show Steps p.tables e below (T51.setTop (mkF m 327 #[.val (.int p1), .val (.int p2), .val (.int p3), .val (.long q4), .second, .val (.long q5), .second, .val (.int p6), .val (.int f4), .val (.int f9), .val (.int f14), .val (.int f19), .val (.ref b21), .val (.int x47), .val (.int x50), .val (.int v69), .val (.int v71), .val (.int v76), .val (.int v83), .val (.int v90), .val (.int v96), .val (.int v102), .val (.int v108)] [(.int x50)])) _
    refine XS.iload X51.here hx rfl (hb hby at_327) rfl ?_
    show Steps p.tables e below (T51.setTop (mkF m 329 #[.val (.int p1), .val (.int p2), .val (.int p3), .val (.long q4), .second, .val (.long q5), .second, .val (.int p6), .val (.int f4), .val (.int f9), .val (.int f14), .val (.int f19), .val (.ref b21), .val (.int x47), .val (.int x50), .val (.int v69), .val (.int v71), .val (.int v76), .val (.int v83), .val (.int v90), .val (.int v96), .val (.int v102), .val (.int v108)] [(.int v108), (.int x50)])) _
    refine XS.icmpNo X51.here hx rfl (hb hby at_329) rfl (teq D7).2 ?_
    show Steps p.tables e below (T51.setTop (mkF m 332 #[.val (.int p1), .val (.int p2), .val (.int p3), .val (.long q4), .second, .val (.long q5), .second, .val (.int p6), .val (.int f4), .val (.int f9), .val (.int f14), .val (.int f19), .val (.ref b21), .val (.int x47), .val (.int x50), .val (.int v69), .val (.int v71), .val (.int v76), .val (.int v83), .val (.int v90), .val (.int v96), .val (.int v102), .val (.int v108)] [])) _
    refine XS.iconst X51.here hx rfl (hb hby at_332) ?_
    show Steps p.tables e below (T51.setTop (mkF m 333 #[.val (.int p1), .val (.int p2), .val (.int p3), .val (.long q4), .second, .val (.long q5), .second, .val (.int p6), .val (.int f4), .val (.int f9), .val (.int f14), .val (.int f19), .val (.ref b21), .val (.int x47), .val (.int x50), .val (.int v69), .val (.int v71), .val (.int v76), .val (.int v83), .val (.int v90), .val (.int v96), .val (.int v102), .val (.int v108)] [(.int (1 : Int32))])) _
    refine XS.goto X51.here hx rfl (pc0 := 333) (pc' := 337) rfl (hb hby at_333) (by decide) (by decide) ?_
    show Steps p.tables e below (T51.setTop (mkF m 337 #[.val (.int p1), .val (.int p2), .val (.int p3), .val (.long q4), .second, .val (.long q5), .second, .val (.int p6), .val (.int f4), .val (.int f9), .val (.int f14), .val (.int f19), .val (.ref b21), .val (.int x47), .val (.int x50), .val (.int v69), .val (.int v71), .val (.int v76), .val (.int v83), .val (.int v90), .val (.int v96), .val (.int v102), .val (.int v108)] [(.int (1 : Int32))])) _
    exact retN X51 hx (t := .boolean) Bd.returns (by simp) (hb hby at_337) hr
  · show Q_rm0 Z p1 p2 p3 q4 q5 p6 h0 n0 _ T51.heap _
    exact ⟨rfl, N51⟩
theorem own_eqlong {args : Array Value} {first s : State} {o : Option Outcome} {idx : List Nat} {t : Term} {k : Int64} (h : (Jvm.Cond.eq t (.long k)).value args first o s idx = some true) : t.eval args first o idx s = some (.long k) := by
  obtain ⟨x, y, hx, hy, hk, hk'⟩ := cmp_v (Or.inl h)
  have ey : y = .long k := (Option.some.inj ((long_at k).symm.trans hy)).symm
  subst ey
  obtain ⟨z, rfl⟩ := hk'
  have := gotT (eq_L hx hy) h
  rw [hx, this]
set_option maxRecDepth 65536 in
set_option maxHeartbeats 40000000 in
theorem comes_1 {Post : Tables → Env → Array Value → State → Outcome → State → Prop} (hpost : ∀ tb e args s v u, (limb_1_1.after args s (.returned v) u = true ∧ limb_1_2.after args s (.returned v) u = true ∧ True) → FrameEnd s (.returned v) u (Jvm.fieldLocs frame_1_writes args s ++ Jvm.arrayLocs frame_1_arrays args s ++ Jvm.staticLocs frame_1_statics s) 16 128 → Post tb e args s (.returned v) u) :
    ArmFor flags0 classFile x code maxLocals ret World_1 tables_1 room_1 Calls_1 rest_1 Pre_1 Post := by
  intro l hfl _ _ p e ha hc hk s m args below hf hA hF happ hP
  obtain ⟨hcalls, hrest, hpre⟩ := hP
  obtain ⟨-, -, -, hnamed, -, -, -, hat⟩ := (Spec.applies_iff hf).mp happ
  obtain ⟨hg, hn⟩ := and_e (Cond.before_iff.mp (show (Jvm.Cond.and given_1 narrow_1).before args s = true from hpre))
  obtain ⟨hcount, hgs⟩ := and_e hg
  obtain ⟨hg0, hgr0⟩ := and_e hgs
  obtain ⟨hg1, hgr1⟩ := and_e hgr0
  obtain ⟨hg2, hgr2⟩ := and_e hgr1
  obtain ⟨hg3, hgr3⟩ := and_e hgr2
  obtain ⟨hg4, hgr4⟩ := and_e hgr3
  obtain ⟨w0, w1, w2, w3, w4, w5, rfl⟩ : ∃ w0 w1 w2 w3 w4 w5 : Value, args = #[w0, w1, w2, w3, w4, w5] := by
    have hs : args.size = 6 := by simpa [Cond.value, given_1] using hcount
    obtain ⟨L⟩ := args
    match L, hs with
    | [w0, w1, w2, w3, w4, w5], _ => exact ⟨w0, w1, w2, w3, w4, w5, rfl⟩
  have hw := fun d (hd : d ∈ tables_1) => atoms_spec (ws := Jvm.Cond.code x code maxLocals ret :: tables_1) hat d (List.mem_cons_of_mem _ hd)
  have hfit : Fit s := fun {y c} hc i hi => by
    obtain ⟨ha, rfl⟩ := Array.getElem?_eq_some_iff.mp hc
    have q := List.all_eq_true.mp ((Array.all_eq_true_iff_forall_mem.mp hF) _ (Array.getElem_mem ha)) i (List.mem_range.mpr hi)
    simpa [Array.getElem?_eq_getElem hi] using q
  obtain ⟨i0, ei0⟩ := is_v hg0
  obtain rfl : w0 = (.int i0) := Option.some.inj ei0
  obtain ⟨i1, ei1⟩ := is_v hg1
  obtain rfl : w1 = (.int i1) := Option.some.inj ei1
  obtain ⟨i2, ei2⟩ := is_v hg2
  obtain rfl : w2 = (.int i2) := Option.some.inj ei2
  obtain ⟨i3, ei3⟩ := isL_v hg3
  obtain rfl : w3 = (.long i3) := Option.some.inj ei3
  obtain ⟨i4, ei4⟩ := isL_v hg4
  obtain rfl : w4 = (.long i4) := Option.some.inj ei4
  obtain ⟨i5, ei5⟩ := is_v hgr4
  obtain rfl : w5 = (.int i5) := Option.some.inj ei5
  have ev := own_eqlong hn
  have S_P : Sta s s.heap "com/example/bouncer/bouncer/http/Polling" "POLL_NANOS" "J" (.long (40000 : Int64)) := Sta.start ev (Or.inr ⟨(hw _ (List.mem_of_getElem? (i := 2) rfl)), (hw _ (List.mem_of_getElem? (i := 24) rfl))⟩)
  obtain ⟨n, o, h1, h2, h3, _, L, rfl, ⟨rfl, N⟩, hq⟩ := rm0 l s _ hw tables_1 i0 i1 i2 i3 i4 i5 s.heap s.heap.size (Nat.le_refl _) S_P p e ha hc hk s m _ below hf ((Spec.applies_iff_loose hf).mp happ).1 ⟨rfl, State.Warmed39.refl s, rfl⟩ trivial
  refine ⟨n, _, h1, h2, h3, hpost _ _ _ _ _ _ ⟨Cond.after_iff.mpr rfl, Cond.after_iff.mpr (eq_i res_at (Term.int_eval (1)) rfl), trivial⟩ ⟨hq.1, hq.2.1, (hq.2.2.sift fun y hy => Or.inr (N y hy)).mono (by decide) (by decide)⟩⟩
theorem main_1_1 : Claimed_1_1 := comes_1 fun _ _ _ _ _ _ h hF => ⟨h.1, hF⟩
theorem main_1_2 : Claimed_1_2 := comes_1 fun _ _ _ _ _ _ h hF => ⟨h.2.1, hF⟩
end Jvm.Pilot.@@N@@
namespace Jvm.Pilot.@@N@@
open Jvm Jvm.ClassFile Sem Op Lib Jvm.Free Jvm.Stand Jvm.Pilot.@@N@@.Jvm.D
/-! MADE BY PROGRAM (witnessworld.py) out of the Statement's table words and the real class files: 10 classes; the members and pool entries that the words name. The judged class is class 1, her method 1. -/
namespace start1
open Jvm.ClassFile
def u (s : String) : CpInfo := .utf8 (stringToUtf16 s)
/-- a pool by its gaps: so many unusable entries, then the entry; so many at the end -/
def gap : Nat → List CpInfo → List CpInfo
  | 0, r => r
  | n + 1, r => .unusable :: gap n r
def poolList (es : List (Nat × CpInfo)) (last : Nat) : List CpInfo := es.foldr (fun e r => gap e.1 (e.2 :: r)) (gap last [])
def pool (es : List (Nat × CpInfo)) (last : Nat) : Array CpInfo := ⟨poolList es last⟩
def fileOf (pool : Array CpInfo) (this : Nat) (attrs : Array Attribute := #[]) (ms : Array MethodInfo := #[]) (fl : Nat := 33) (sup : Nat := 0) (ifs : Array Nat := #[]) (fds : Array FieldInfo := #[]) : ClassFile where
  minorVersion := 0
  majorVersion := 65
  constantPool := pool
  accessFlags := fl
  thisClass := this
  superClass := sup
  interfaces := ifs
  fields := fds
  methods := ms
  attributes := attrs
def plain (name : String) (sup : Option ClassId) : Class where
  name := name
  kind := .ordinary
  loader := none
  accessFlags := 33
  super := sup
  interfaces := #[]
  cf := none
  fields := #[]
  methods := #[]
  instanceTypes := #[]
  staticTypes := #[]
  resolved := #[]
  callSites := []
  init := .initialized
  statics := none
  mirror := none

def pool0 : Array CpInfo := pool [(5, u "<init>"), (0, u "()V"), (1, .class_ 10), (1, u "java/lang/Object")] 113

def k0c0 : Code := { maxStack := 0, maxLocals := 1, code := object_method_1_code, exceptionTable := #[], attributes := #[] }
def k0m0 : Method := { name := "<init>", desc := "()V", sig := { parameters := [], returnType := none }, accessFlags := 1, code := some k0c0 }
/-- java/lang/Object -/
def k0 : Class := { plain "java/lang/Object" none with
  accessFlags := 33
  interfaces := #[]
  cf := some (fileOf pool0 8 #[] #[{ accessFlags := 1, nameIndex := 5, descriptorIndex := 6, attributes := #[] }] 33 0 #[] #[])
  fields := #[]
  methods := #[k0m0]
  instanceTypes := #[]
  staticTypes := #[]
  resolved := Array.replicate 124 none
  statics := none }

def pool1 : Array CpInfo := pool [(2, .class_ 4), (1, u "java/lang/Object"), (0, u "<init>"), (0, u "()V"), (0, .class_ 8), (0, u "com/example/bouncer/bouncer/http/Polling"), (0, .methodref 7 10), (0, .nameAndType 5 11), (0, u "(I)V"), (0, .methodref 7 13), (0, .nameAndType 14 6), (0, u "gaveUp"), (0, .methodref 7 16), (0, .nameAndType 17 18), (0, u "waited"), (0, u "(J)V"), (0, .methodref 7 20), (0, .nameAndType 21 22), (0, u "found"), (0, u "(Z)V"), (0, .methodref 7 24), (0, .nameAndType 25 26), (0, u "pollsNext"), (0, u "(I)Z"), (0, .long 80000), (1, .long 40000), (1, .class_ 32), (0, u "com/example/bouncer/bouncer/http/PollingPollsNextPinLaw"), (2, u "law"), (0, u "(IIIJJI)Z")] 3

def k1m0 : Method := { name := "<init>", desc := "()V", sig := { parameters := [], returnType := none }, accessFlags := 1, code := none }
def k1c1 : Code := { maxStack := 4, maxLocals := 23, code := code, exceptionTable := #[], attributes := #[] }
def k1m1 : Method := { name := "law", desc := "(IIIJJI)Z", sig := { parameters := [.int, .int, .int, .long, .long, .int], returnType := some .boolean }, accessFlags := 9, code := some k1c1 }
/-- com/example/bouncer/bouncer/http/PollingPollsNextPinLaw -/
def k1 : Class := { plain "com/example/bouncer/bouncer/http/PollingPollsNextPinLaw" (some 0) with
  accessFlags := 49
  interfaces := #[]
  cf := some (fileOf pool1 31 #[] #[{ accessFlags := 1, nameIndex := 5, descriptorIndex := 6, attributes := #[] }, { accessFlags := 9, nameIndex := 35, descriptorIndex := 36, attributes := #[] }] 49 2 #[] #[])
  fields := #[]
  methods := #[k1m0, k1m1]
  instanceTypes := #[]
  staticTypes := #[]
  resolved := Array.replicate 40 none
  statics := none }

def pool2 : Array CpInfo := pool [(1, .methodref 2 3), (0, .class_ 4), (0, .nameAndType 5 6), (0, u "java/lang/Object"), (0, u "<init>"), (0, u "()V"), (0, .fieldref 8 9), (0, .class_ 10), (0, .nameAndType 11 12), (0, u "com/example/bouncer/bouncer/http/Polling"), (0, u "processors"), (0, u "I"), (0, .fieldref 8 14), (0, .nameAndType 15 16), (0, u "waitedBriefly"), (0, u "Z"), (0, .fieldref 8 18), (0, .nameAndType 19 12), (0, u "unpolled"), (0, .fieldref 8 21), (0, .nameAndType 22 12), (0, u "backoff"), (0, .fieldref 8 24), (0, .nameAndType 25 16), (0, u "gaveUp"), (0, .fieldref 8 27), (0, .nameAndType 28 29), (0, u "POLL_NANOS"), (0, u "J"), (0, .long 2), (1, .methodref 33 34), (0, .class_ 35), (0, .nameAndType 36 37), (0, u "java/lang/Math"), (0, u "max"), (0, u "(II)I"), (0, .methodref 33 39), (0, .nameAndType 40 37), (0, u "min"), (12, u "MOST_UNPOLLED"), (2, u "(I)V"), (2, u "pollsNext"), (0, u "(I)Z"), (1, u "found"), (0, u "(Z)V"), (0, u "waited"), (0, u "(J)V")] 3

def k2c0 : Code := { maxStack := 2, maxLocals := 2, code := prog_44_method_1_code, exceptionTable := #[], attributes := #[] }
def k2m0 : Method := { name := "<init>", desc := "(I)V", sig := { parameters := [.int], returnType := none }, accessFlags := 0, code := some k2c0 }
def k2c1 : Code := { maxStack := 3, maxLocals := 3, code := prog_44_method_2_code, exceptionTable := #[], attributes := #[] }
def k2m1 : Method := { name := "pollsNext", desc := "(I)Z", sig := { parameters := [.int], returnType := some .boolean }, accessFlags := 0, code := some k2c1 }
def k2c2 : Code := { maxStack := 3, maxLocals := 2, code := prog_44_method_3_code, exceptionTable := #[], attributes := #[] }
def k2m2 : Method := { name := "found", desc := "(Z)V", sig := { parameters := [.boolean], returnType := none }, accessFlags := 0, code := some k2c2 }
def k2c3 : Code := { maxStack := 2, maxLocals := 1, code := prog_44_method_4_code, exceptionTable := #[], attributes := #[] }
def k2m3 : Method := { name := "gaveUp", desc := "()V", sig := { parameters := [], returnType := none }, accessFlags := 0, code := some k2c3 }
def k2c4 : Code := { maxStack := 6, maxLocals := 3, code := prog_44_method_5_code, exceptionTable := #[], attributes := #[] }
def k2m4 : Method := { name := "waited", desc := "(J)V", sig := { parameters := [.long], returnType := none }, accessFlags := 0, code := some k2c4 }
/-- com/example/bouncer/bouncer/http/Polling -/
def k2 : Class := { plain "com/example/bouncer/bouncer/http/Polling" (some 0) with
  accessFlags := 48
  interfaces := #[]
  cf := some (fileOf pool2 8 #[] #[{ accessFlags := 0, nameIndex := 5, descriptorIndex := 56, attributes := #[] }, { accessFlags := 0, nameIndex := 59, descriptorIndex := 60, attributes := #[] }, { accessFlags := 0, nameIndex := 62, descriptorIndex := 63, attributes := #[] }, { accessFlags := 0, nameIndex := 25, descriptorIndex := 6, attributes := #[] }, { accessFlags := 0, nameIndex := 64, descriptorIndex := 65, attributes := #[] }] 48 2 #[] #[{ accessFlags := 24, nameIndex := 28, descriptorIndex := 29, attributes := #[] }, { accessFlags := 24, nameIndex := 53, descriptorIndex := 12, attributes := #[] }, { accessFlags := 18, nameIndex := 11, descriptorIndex := 12, attributes := #[] }, { accessFlags := 2, nameIndex := 15, descriptorIndex := 16, attributes := #[] }, { accessFlags := 2, nameIndex := 25, descriptorIndex := 16, attributes := #[] }, { accessFlags := 2, nameIndex := 22, descriptorIndex := 12, attributes := #[] }, { accessFlags := 2, nameIndex := 19, descriptorIndex := 12, attributes := #[] }])
  fields := #[{ name := "POLL_NANOS", type := .long, accessFlags := 24, slot := 0, constantValue := 0 }, { name := "MOST_UNPOLLED", type := .int, accessFlags := 24, slot := 1, constantValue := 0 }, { name := "processors", type := .int, accessFlags := 18, slot := 0, constantValue := 0 }, { name := "waitedBriefly", type := .boolean, accessFlags := 2, slot := 1, constantValue := 0 }, { name := "gaveUp", type := .boolean, accessFlags := 2, slot := 2, constantValue := 0 }, { name := "backoff", type := .int, accessFlags := 2, slot := 3, constantValue := 0 }, { name := "unpolled", type := .int, accessFlags := 2, slot := 4, constantValue := 0 }]
  methods := #[k2m0, k2m1, k2m2, k2m3, k2m4]
  instanceTypes := #[.int, .boolean, .boolean, .int, .int]
  staticTypes := #[.long, .int]
  resolved := Array.replicate 69 none
  statics := some 0 }

def pool3 : Array CpInfo := pool [(1, .class_ 2), (0, u "java/lang/Math"), (1, .class_ 6), (1, u "java/lang/Object"), (0, u "<init>"), (0, u "()V"), (89, .class_ 100), (1, u "java/lang/Math$RandomNumberGeneratorHolder"), (71, u "negativeZeroFloatBits"), (0, u "J"), (2, u "negativeZeroDoubleBits"), (21, u "max"), (2, u "min"), (43, u "$assertionsDisabled"), (0, u "Z"), (88, u "(II)I"), (2, u "twoToTheDoubleScaleDown"), (0, u "D"), (4, u "twoToTheDoubleScaleUp"), (9, u "E"), (3, u "PI"), (2, u "TAU"), (2, u "DEGREES_TO_RADIANS"), (0, u "RADIANS_TO_DEGREES")] 94

def k3m0 : Method := { name := "<init>", desc := "()V", sig := { parameters := [], returnType := none }, accessFlags := 2, code := none }
def k3c1 : Code := { maxStack := 2, maxLocals := 2, code := jdk_29_method_65_code, exceptionTable := #[], attributes := #[] }
def k3m1 : Method := { name := "max", desc := "(II)I", sig := { parameters := [.int, .int], returnType := some .int }, accessFlags := 9, code := some k3c1 }
def k3c2 : Code := { maxStack := 2, maxLocals := 2, code := jdk_29_method_69_code, exceptionTable := #[], attributes := #[] }
def k3m2 : Method := { name := "min", desc := "(II)I", sig := { parameters := [.int, .int], returnType := some .int }, accessFlags := 9, code := some k3c2 }
/-- java/lang/Math -/
def k3 : Class := { plain "java/lang/Math" (some 0) with
  accessFlags := 49
  interfaces := #[]
  cf := some (fileOf pool3 1 #[.nestMembers #[98]] #[{ accessFlags := 2, nameIndex := 7, descriptorIndex := 8, attributes := #[] }, { accessFlags := 9, nameIndex := 198, descriptorIndex := 335, attributes := #[] }, { accessFlags := 9, nameIndex := 201, descriptorIndex := 335, attributes := #[] }] 49 4 #[] #[{ accessFlags := 25, nameIndex := 354, descriptorIndex := 339, attributes := #[] }, { accessFlags := 25, nameIndex := 358, descriptorIndex := 339, attributes := #[] }, { accessFlags := 25, nameIndex := 361, descriptorIndex := 339, attributes := #[] }, { accessFlags := 26, nameIndex := 364, descriptorIndex := 339, attributes := #[] }, { accessFlags := 26, nameIndex := 365, descriptorIndex := 339, attributes := #[] }, { accessFlags := 26, nameIndex := 172, descriptorIndex := 173, attributes := #[] }, { accessFlags := 26, nameIndex := 176, descriptorIndex := 173, attributes := #[] }, { accessFlags := 8, nameIndex := 344, descriptorIndex := 339, attributes := #[] }, { accessFlags := 8, nameIndex := 338, descriptorIndex := 339, attributes := #[] }, { accessFlags := 4120, nameIndex := 245, descriptorIndex := 246, attributes := #[] }])
  fields := #[{ name := "E", type := .double, accessFlags := 25, slot := 0, constantValue := 0 }, { name := "PI", type := .double, accessFlags := 25, slot := 1, constantValue := 0 }, { name := "TAU", type := .double, accessFlags := 25, slot := 2, constantValue := 0 }, { name := "DEGREES_TO_RADIANS", type := .double, accessFlags := 26, slot := 3, constantValue := 0 }, { name := "RADIANS_TO_DEGREES", type := .double, accessFlags := 26, slot := 4, constantValue := 0 }, { name := "negativeZeroFloatBits", type := .long, accessFlags := 26, slot := 5, constantValue := 0 }, { name := "negativeZeroDoubleBits", type := .long, accessFlags := 26, slot := 6, constantValue := 0 }, { name := "twoToTheDoubleScaleUp", type := .double, accessFlags := 8, slot := 7, constantValue := 0 }, { name := "twoToTheDoubleScaleDown", type := .double, accessFlags := 8, slot := 8, constantValue := 0 }, { name := "$assertionsDisabled", type := .boolean, accessFlags := 4120, slot := 9, constantValue := 0 }]
  methods := #[k3m0, k3m1, k3m2]
  instanceTypes := #[]
  staticTypes := #[.double, .double, .double, .double, .double, .long, .long, .double, .double, .boolean]
  resolved := Array.replicate 460 none
  statics := none }

def pool4 : Array CpInfo := pool [(1, u "java/lang/Cloneable"), (0, .class_ 1), (0, u "java/lang/Object"), (0, .class_ 3)] 3

/-- java/lang/Cloneable -/
def k4 : Class := { plain "java/lang/Cloneable" (some 0) with
  accessFlags := 1537
  interfaces := #[]
  cf := some (fileOf pool4 2 #[] #[] 1537 4 #[] #[])
  fields := #[]
  methods := #[]
  instanceTypes := #[]
  staticTypes := #[]
  resolved := Array.replicate 8 none
  statics := none }

def pool5 : Array CpInfo := pool [(1, u "java/io/Serializable"), (0, .class_ 1), (0, u "java/lang/Object"), (0, .class_ 3)] 3

/-- java/io/Serializable -/
def k5 : Class := { plain "java/io/Serializable" (some 0) with
  accessFlags := 1537
  interfaces := #[]
  cf := some (fileOf pool5 2 #[] #[] 1537 4 #[] #[])
  fields := #[]
  methods := #[]
  instanceTypes := #[]
  staticTypes := #[]
  resolved := Array.replicate 8 none
  statics := none }

/-- the primitive byte -/
def k6 : Class := { plain "byte" none with kind := .primitive 'B', accessFlags := 0x411 }
/-- [B -/
def k7 : Class := { plain "[B" (some 0) with kind := .array 6 .byte, interfaces := #[4, 5], accessFlags := 1041 }

/-- the primitive int -/
def k8 : Class := { plain "int" none with kind := .primitive 'I', accessFlags := 0x411 }
/-- [I -/
def k9 : Class := { plain "[I" (some 0) with kind := .array 8 .int, interfaces := #[4, 5], accessFlags := 1041 }

def heap : Heap := #[{ cls := 2, slots := #[.long 40000, .int 0], vm := .statics 2 }]
def classes : Array Class := #[k0, k1, k2, k3, k4, k5, k6, k7, k8, k9]
def interned : List (Array UInt16 × Addr) := []
def slotsUsed : Nat := 2
def theMethod : MethodId := ⟨1, 1⟩
def args0 : Array Value := #[.int 5, .int 6, .int 7, .long 8, .long 9, .int 3]
def aboutOver (below : List Frame) : State where
  vm := { classes := classes, interned := interned.toArray }
  heap := heap
  slotsUsed := slotsUsed
  threads := #[{ frames := .invoking theMethod args0 :: below }]
def below0 : List Frame := [.native { method := ⟨0, 0⟩, args := #[] }]
def about1 : State := aboutOver below0
def p0 : Program := .bare "" "" ""
def e0 : Env := launch0.env 0 0 0
theorem w_frames : about1.frames = Frame.invoking theMethod args0 :: below0 := rfl
set_option maxRecDepth 65536 in
theorem w_args : argsFit about1.vm theMethod args0 = true := by decide +kernel
set_option maxRecDepth 65536 in
theorem w_heap : heapFits about1 = true := by decide +kernel
set_option maxRecDepth 65536 in
theorem w_runnable : about1.curStatus? = some .runnable := by decide +kernel
set_option maxRecDepth 65536 in
theorem w_alone : about1.alone = true := by decide +kernel
set_option maxRecDepth 65536 in
theorem w_named : about1.methodNamed? x = some theMethod := by decide +kernel
set_option maxRecDepth 65536 in
theorem w_hears : about1.hears theMethod below0 = true := by decide +kernel
set_option maxRecDepth 65536 in
theorem w_ripe : about1.ripe theMethod args0 below0 = true := by decide +kernel
theorem w_running : about1.status = .running := rfl
set_option maxRecDepth 65536 in
theorem w_room : about1.hasRoom e0.platform room_1 = true :=
  launch0.hasRoom_least _ room_1 (by decide +kernel) (by decide +kernel) (by decide +kernel) (by decide +kernel) (by decide +kernel) (by decide +kernel)
theorem allAtoms_all (ts : List Jvm.Cond) (a : Array Jvm.Value) (st : Jvm.State) : (allAtoms ts).before a st = ts.all (fun c => c.before a st) := by
  induction ts with
  | nil => rfl
  | cons c t ih =>
    show (Jvm.Cond.and c (allAtoms t)).before a st = _
    rw [Jvm.Cond.before_and, ih, List.all_cons]
def words1 : List Jvm.Cond := Jvm.Cond.code x code maxLocals ret :: tables_1
/-- a 'code' word, met by the world's own term for the bytes: nothing is compared byte by byte -/
theorem code_word {y : MethodName} {bytes : ByteArray} {mx : Nat} {rt : Option FieldType} {a : Array Value} {s : State} {m : MethodId} {meth : Method} {c : Code} (h1 : s.methodNamed? y = some m) (h2 : s.vm.method? m = some meth) (h3 : meth.code = some c) (h4 : c.code = bytes)
    (h5 : (c.maxLocals == mx && c.exceptionTable.isEmpty && decide (c.maxStack ≤ mostOperands) && decide (meth.sig.returnType = rt) && !meth.locks && decide (parseMethodDescriptor y.desc = some meth.sig)) = true) : (Jvm.Cond.code y bytes mx rt).before a s = true := by
  simp only [Bool.and_eq_true, beq_iff_eq, Bool.not_eq_true', decide_eq_true_eq] at h5
  obtain ⟨⟨⟨⟨⟨g1, g2⟩, g3⟩, g4⟩, g5⟩, g6⟩ := h5
  simp [Cond.before, Cond.holds, Cond.value, h1, h2, h3, h4, g1, g2, g3, g4, g5, g6]
def isCode : Jvm.Cond → Bool
  | .code _ _ _ _ => true
  | _ => false
theorem all_split {L : List Jvm.Cond} {P : Jvm.Cond → Bool} (h1 : L.all (fun c => isCode c || P c) = true) (h2 : ∀ c ∈ L.filter isCode, P c = true) : L.all P = true := by
  refine List.all_eq_true.mpr fun c hc => ?_
  have h := List.all_eq_true.mp h1 c hc
  rcases Bool.eq_false_or_eq_true (isCode c) with hi | hi
  · exact h2 c (List.mem_filter.mpr ⟨hc, hi⟩)
  · simpa [hi] using h
set_option maxRecDepth 65536 in
theorem w_c0 : (Jvm.Cond.code x code maxLocals ret).before args0 about1 = true := code_word (m := ⟨1, 1⟩) (meth := k1m1) (c := k1c1) (by decide +kernel) rfl rfl rfl (by decide +kernel)
set_option maxRecDepth 65536 in
theorem w_c1 : (Jvm.Cond.code ({ cls := "com/example/bouncer/bouncer/http/Polling", name := "<init>", desc := "(I)V" } : Jvm.MethodName) prog_44_method_1_code (2 : Nat) (Option.none : Option Jvm.ClassFile.FieldType)).before args0 about1 = true := code_word (m := ⟨2, 0⟩) (meth := k2m0) (c := k2c0) (by decide +kernel) rfl rfl rfl (by decide +kernel)
set_option maxRecDepth 65536 in
theorem w_c2 : (Jvm.Cond.code ({ cls := "java/lang/Object", name := "<init>", desc := "()V" } : Jvm.MethodName) object_method_1_code (1 : Nat) (Option.none : Option Jvm.ClassFile.FieldType)).before args0 about1 = true := code_word (m := ⟨0, 0⟩) (meth := k0m0) (c := k0c0) (by decide +kernel) rfl rfl rfl (by decide +kernel)
set_option maxRecDepth 65536 in
theorem w_c3 : (Jvm.Cond.code ({ cls := "com/example/bouncer/bouncer/http/Polling", name := "gaveUp", desc := "()V" } : Jvm.MethodName) prog_44_method_4_code (1 : Nat) (Option.none : Option Jvm.ClassFile.FieldType)).before args0 about1 = true := code_word (m := ⟨2, 3⟩) (meth := k2m3) (c := k2c3) (by decide +kernel) rfl rfl rfl (by decide +kernel)
set_option maxRecDepth 65536 in
theorem w_c4 : (Jvm.Cond.code ({ cls := "com/example/bouncer/bouncer/http/Polling", name := "waited", desc := "(J)V" } : Jvm.MethodName) prog_44_method_5_code (3 : Nat) (Option.none : Option Jvm.ClassFile.FieldType)).before args0 about1 = true := code_word (m := ⟨2, 4⟩) (meth := k2m4) (c := k2c4) (by decide +kernel) rfl rfl rfl (by decide +kernel)
set_option maxRecDepth 65536 in
theorem w_c5 : (Jvm.Cond.code ({ cls := "java/lang/Math", name := "max", desc := "(II)I" } : Jvm.MethodName) jdk_29_method_65_code (2 : Nat) (Option.some Jvm.ClassFile.FieldType.int)).before args0 about1 = true := code_word (m := ⟨3, 1⟩) (meth := k3m1) (c := k3c1) (by decide +kernel) rfl rfl rfl (by decide +kernel)
set_option maxRecDepth 65536 in
theorem w_c6 : (Jvm.Cond.code ({ cls := "java/lang/Math", name := "min", desc := "(II)I" } : Jvm.MethodName) jdk_29_method_69_code (2 : Nat) (Option.some Jvm.ClassFile.FieldType.int)).before args0 about1 = true := code_word (m := ⟨3, 2⟩) (meth := k3m2) (c := k3c2) (by decide +kernel) rfl rfl rfl (by decide +kernel)
set_option maxRecDepth 65536 in
theorem w_c7 : (Jvm.Cond.code ({ cls := "com/example/bouncer/bouncer/http/Polling", name := "pollsNext", desc := "(I)Z" } : Jvm.MethodName) prog_44_method_2_code (3 : Nat) (Option.some Jvm.ClassFile.FieldType.boolean)).before args0 about1 = true := code_word (m := ⟨2, 1⟩) (meth := k2m1) (c := k2c1) (by decide +kernel) rfl rfl rfl (by decide +kernel)
set_option maxRecDepth 65536 in
theorem w_c8 : (Jvm.Cond.code ({ cls := "com/example/bouncer/bouncer/http/Polling", name := "found", desc := "(Z)V" } : Jvm.MethodName) prog_44_method_3_code (2 : Nat) (Option.none : Option Jvm.ClassFile.FieldType)).before args0 about1 = true := code_word (m := ⟨2, 2⟩) (meth := k2m2) (c := k2c2) (by decide +kernel) rfl rfl rfl (by decide +kernel)
def codes1 : List Jvm.Cond := [Jvm.Cond.code x code maxLocals ret, Jvm.Cond.code ({ cls := "com/example/bouncer/bouncer/http/Polling", name := "<init>", desc := "(I)V" } : Jvm.MethodName) prog_44_method_1_code (2 : Nat) (Option.none : Option Jvm.ClassFile.FieldType), Jvm.Cond.code ({ cls := "java/lang/Object", name := "<init>", desc := "()V" } : Jvm.MethodName) object_method_1_code (1 : Nat) (Option.none : Option Jvm.ClassFile.FieldType), Jvm.Cond.code ({ cls := "com/example/bouncer/bouncer/http/Polling", name := "gaveUp", desc := "()V" } : Jvm.MethodName) prog_44_method_4_code (1 : Nat) (Option.none : Option Jvm.ClassFile.FieldType), Jvm.Cond.code ({ cls := "com/example/bouncer/bouncer/http/Polling", name := "waited", desc := "(J)V" } : Jvm.MethodName) prog_44_method_5_code (3 : Nat) (Option.none : Option Jvm.ClassFile.FieldType), Jvm.Cond.code ({ cls := "java/lang/Math", name := "max", desc := "(II)I" } : Jvm.MethodName) jdk_29_method_65_code (2 : Nat) (Option.some Jvm.ClassFile.FieldType.int), Jvm.Cond.code ({ cls := "java/lang/Math", name := "min", desc := "(II)I" } : Jvm.MethodName) jdk_29_method_69_code (2 : Nat) (Option.some Jvm.ClassFile.FieldType.int), Jvm.Cond.code ({ cls := "com/example/bouncer/bouncer/http/Polling", name := "pollsNext", desc := "(I)Z" } : Jvm.MethodName) prog_44_method_2_code (3 : Nat) (Option.some Jvm.ClassFile.FieldType.boolean), Jvm.Cond.code ({ cls := "com/example/bouncer/bouncer/http/Polling", name := "found", desc := "(Z)V" } : Jvm.MethodName) prog_44_method_3_code (2 : Nat) (Option.none : Option Jvm.ClassFile.FieldType)]
set_option maxRecDepth 65536 in
theorem codes_eq : words1.filter isCode = codes1 := rfl
theorem w_codes : ∀ c ∈ words1.filter isCode, c.before args0 about1 = true := by
  rw [codes_eq]
  intro c hc
  simp only [codes1, List.mem_cons, List.not_mem_nil, or_false] at hc
  rcases hc with rfl | rfl | rfl | rfl | rfl | rfl | rfl | rfl | rfl
  · exact w_c0
  · exact w_c1
  · exact w_c2
  · exact w_c3
  · exact w_c4
  · exact w_c5
  · exact w_c6
  · exact w_c7
  · exact w_c8
set_option maxRecDepth 65536 in
theorem w_t1 : (words1.take 24).all (fun c => isCode c || c.before args0 about1) = true := by decide +kernel
set_option maxRecDepth 65536 in
theorem w_t2 : ((words1.drop 24).take 24).all (fun c => isCode c || c.before args0 about1) = true := by decide +kernel
set_option maxRecDepth 65536 in
theorem w_t3 : ((words1.drop 24).drop 24).all (fun c => isCode c || c.before args0 about1) = true := by decide +kernel
theorem w_tables : (allAtoms (Jvm.Cond.code x code maxLocals ret :: tables_1)).before args0 about1 = true := by
  rw [allAtoms_all]
  show words1.all (fun c => c.before args0 about1) = true
  refine all_split ?_ w_codes
  rw [← List.take_append_drop 24 words1, List.all_append, w_t1, ← List.take_append_drop 24 (words1.drop 24), List.all_append, w_t2, w_t3]
  rfl
set_option maxRecDepth 65536 in
theorem w_case : (Jvm.Cond.and given_1 narrow_1).before args0 about1 = true := by decide +kernel
theorem w_applies : (headSpec (Jvm.Cond.code x code maxLocals ret :: tables_1) room_1).applies x e0.platform about1 = true :=
  (Spec.applies_iff w_frames).mpr ⟨w_running, w_runnable, w_alone, w_named, w_hears, w_ripe, w_room, w_tables⟩
theorem atStart : AtStart classFile x code maxLocals ret World_1 tables_1 room_1 Calls_1 rest_1 Pre_1 launch0 p0 e0 about1 theMethod args0 below0 :=
  ⟨lists_1, trivial, launch0.admits_env _ _ _, launch0.least_env, fairChoices_fair.cas, fairChoices_fair.clock, w_frames, w_args, w_heap, w_applies, trivial, trivial, w_case⟩
end start1
theorem witness_1 : WitnessClaimed_1 := ⟨start1.p0, start1.e0, start1.about1, start1.theMethod, start1.args0, start1.below0, start1.atStart⟩
end Jvm.Pilot.@@N@@

import JvmDerived
import JvmDerived.Pilot.@@N@@Statement
import JvmDerived.Pilot.@@N@@Code
set_option linter.unusedVariables false
set_option linter.unusedSimpArgs false
@@BLOCK:NumsL.lean.txt@@
namespace Jvm.RoadKit
open Sem ClassFile Op Lib Jvm.Stand Jvm.Free Jvm.LawKit
section New
variable {p : Program} {l : Launch} {e : Env} {R : Room} {s : State} {m : MethodId} {args : Array Value} {below : List Frame} {meth : Method} {c : Code} {T : State} {locs : List Loc} {cells slots : Nat}
theorem retI (X : Stand p l e R s m args below meth c T locs cells slots) (hx : p.tables.exec = Jvm.exec) {pc : Nat} {Ls : Array Slot} {z : Int32} {rest : List Value} (hret : meth.sig.returnType = some .int) (hd : decode c.code pc = .ok (.ireturn, 1)) {fs : List Frame}
    (hl : ∀ (f : JFrame) (acts : List Action), f.method = m → f.locked = none → f.entered = [] → (doReturn e (T.setTop f) acts (some (.int z))).1 = T.setFrames fs) : Steps p.tables e below (T.setTop (mkF m pc Ls (.int z :: rest))) (T.setFrames fs) := by
  have hm' : T.vm.method? m = some meth := X.method'
  have hn : narrow .int (.int z) = .int z := rfl
  show Steps p.tables e below (T.setTop { method := m, pc := pc, locals := Ls, stack := _ :: rest, locked := none }) _
  jvm_step X.here [X.here.top, hx, hd, hm', hret, hn]
  first | (intro acts; rw [hl _ acts rfl rfl rfl]) | rw [hl _ _ rfl rfl rfl]
  exact Steps.refl _
end New
end Jvm.RoadKit
/- laws to paste: Road.backV, Road.eqW, Road.codOf (cut by pick.py; bodies as the Statement names them) -/
namespace Jvm.Pilot.@@N@@
namespace StrChars
open Jvm Sem ClassFile Op Lib Jvm.Stand Jvm.Free.XT Jvm.Free.ALB Jvm.Free.JM Jvm.Free
open Jvm.Lib.Cold (StaticIs)
/-- a char array whose places are chars -/
def Ch (a : Addr) (A : Cell) (U : State) : Prop := Arr .char a A U ∧ Typed .char A
theorem Ch.mv {a : Addr} {A : Cell} {U U' : State} (h : Ch a A U) (hal : U.vm.Alike U'.vm) (hh : U'.heap = U.heap) : Ch a A U' := ⟨h.1.mv hal hh, h.2⟩
theorem Ch.keep {a : Addr} {A : Cell} {U U' : State} (h : Ch a A U) (hal : U.vm.Alike U'.vm) (hk : U'.heap[a]? = some A) : Ch a A U' := ⟨h.1.keep hal hk, h.2⟩
/-- what place i of a char[]'s cell holds -/
def cv (A : Cell) (i : Nat) : Int32 := match A.slots[i]? with | some (.int x) => x | _ => 0
theorem Ch.get {a : Addr} {A : Cell} {U : State} (h : Ch a A U) {i : Nat} (hi : i < A.slots.size) : A.slots[i]? = some (.int (cv A i)) := by
  have e := Array.getElem?_eq_getElem hi
  have f := h.2 i _ e
  unfold cv; rw [e]
  generalize A.slots[i] = v at f
  cases v <;> simp [fits] at f ⊢
/-- the byte that i2b leaves of a char -/
def lo8 (x : Int32) : Int32 := x.toInt8.toInt32
theorem fits_lo8 (y : Int32) : fits .byte (.int (lo8 y)) = true := by
  have h1 := y.toInt8.le_toInt
  have h2 := y.toInt8.toInt_lt
  simp only [lo8, fits, Bool.and_eq_true, decide_eq_true_eq, Int32.le_iff_toInt_le, Int8.toInt_toInt32, show (-128 : Int32).toInt = -128 from by decide, show (127 : Int32).toInt = 127 from by decide]
  omega
/-- A' is A but that each place j of lo .. hi - 1 holds f j -/
def Laid (A A' : Cell) (lo hi : Nat) (f : Nat → Value) : Prop := A'.cls = A.cls ∧ A'.vm = A.vm ∧ A'.slots.size = A.slots.size ∧ ∀ i, A'.slots[i]? = if lo ≤ i ∧ i < hi then some (f i) else A.slots[i]?
theorem Laid.zero (A : Cell) (lo : Nat) (f : Nat → Value) : Laid A A lo (lo + 0) f := ⟨rfl, rfl, rfl, fun i => by rw [if_neg (by omega)]⟩
theorem Laid.step {A Ak : Cell} {lo k : Nat} {f : Nat → Value} {v : Value} (h : Laid A Ak lo k f) (hlo : lo ≤ k) (hk : k < Ak.slots.size) (hv : v = f k) : Laid A (Ak.setSlot k v) lo (k + 1) f := by
  refine ⟨h.1, h.2.1, by simpa [Cell.setSlot] using h.2.2.1, fun i => ?_⟩
  by_cases e : k = i
  · subst e; rw [Cell.slots_setSlot_self v hk, if_pos (by omega), hv]
  · rw [Cell.slots_setSlot_ne v e, h.2.2.2 i]
    by_cases q : lo ≤ i ∧ i < k
    · rw [if_pos q, if_pos (by omega)]
    · rw [if_neg q, if_neg (by omega)]
def U16 : String := "java/lang/StringUTF16"
namespace Cmp5
def yN : MethodName := ⟨"java/lang/StringUTF16", "compress", "([CI[BII)I"⟩
abbrev yB : ByteArray := jdk_52_method_21_code
theorem d0 : decode yB 0 = .ok (.iconst 0, 1) := by decide +kernel
theorem d1 : decode yB 1 = .ok (.istore 5, 2) := by decide +kernel
theorem d3 : decode yB 3 = .ok (.iload 5, 2) := by decide +kernel
theorem d5 : decode yB 5 = .ok (.iload 4, 2) := by decide +kernel
theorem d7 : decode yB 7 = .ok (.if_icmp (.ge) 37, 3) := by decide +kernel
theorem d10 : decode yB 10 = .ok (.aload_n 0, 1) := by decide +kernel
theorem d11 : decode yB 11 = .ok (.iload_n 1, 1) := by decide +kernel
theorem d12 : decode yB 12 = .ok (.caload, 1) := by decide +kernel
theorem d13 : decode yB 13 = .ok (.istore 6, 2) := by decide +kernel
theorem d15 : decode yB 15 = .ok (.iload 6, 2) := by decide +kernel
theorem d17 : decode yB 17 = .ok (.sipush 255, 3) := by decide +kernel
theorem d20 : decode yB 20 = .ok (.if_icmp (.le) 6, 3) := by decide +kernel
theorem d26 : decode yB 26 = .ok (.aload_n 2, 1) := by decide +kernel
theorem d27 : decode yB 27 = .ok (.iload_n 3, 1) := by decide +kernel
theorem d28 : decode yB 28 = .ok (.iload 6, 2) := by decide +kernel
theorem d30 : decode yB 30 = .ok (.i2b, 1) := by decide +kernel
theorem d31 : decode yB 31 = .ok (.bastore, 1) := by decide +kernel
theorem d32 : decode yB 32 = .ok (.iinc 1 1, 3) := by decide +kernel
theorem d35 : decode yB 35 = .ok (.iinc 3 1, 3) := by decide +kernel
theorem d38 : decode yB 38 = .ok (.iinc 5 1, 3) := by decide +kernel
theorem d41 : decode yB 41 = .ok (.goto (-38), 3) := by decide +kernel
theorem d44 : decode yB 44 = .ok (.iload 4, 2) := by decide +kernel
theorem d46 : decode yB 46 = .ok (.ireturn, 1) := by decide +kernel
def site : List Cond := []
def tab : Cond := tabOf yN yB 7 (some .int) site
def P (b : Addr) (A : Cell) (d : Addr) (B : Cell) (o q len : Nat) (args : Array Value) (s : State) : Prop := args = #[.ref b, .int (Int32.ofNat o), .ref d, .int (Int32.ofNat q), .int (Int32.ofNat len)] ∧ Ch b A s ∧ Arr .byte d B s ∧ b ≠ d ∧ o + len ≤ A.slots.size ∧ q + len ≤ B.slots.size ∧ ∀ i, i < len → ¬ 255 < cv A (o + i)
def E (b : Addr) (A : Cell) (d : Addr) (B : Cell) (o q len : Nat) (r : Option Value) (s u : State) : Prop := r = some (.int (Int32.ofNat len)) ∧ ∃ B', Put d B' s u ∧ Laid B B' q (q + len) (fun j => Value.int (lo8 (cv A (o + (j - q)))))
/-- no char of the range above 255: len; the places written hold each char's low byte -/
theorem law (l : Launch) (b : Addr) (A : Cell) (d : Addr) (B : Cell) (o q len : Nat) : Law l yN 5 5 0 0 yB 7 (some .int) site (P b A d B o q len) (E b A d B o q len) (copyLocs d q len) 0 0 := by
  refine Law.of_walk (plainFor_of_name (by decide +kernel)) (by decide +kernel) (by decide +kernel) (by decide) (fun _ _ h => by rw [h.1]; rfl) (fun _ U U' hal hh h => ⟨h.1, h.2.1.mv hal hh, h.2.2.1.mv hal hh, h.2.2.2⟩) (fun r U U' V V' h1 hal h2 h => ⟨h.1, h.2.elim fun B' q => ⟨B', q.1.mv h1 h2, q.2⟩⟩) ?_
  intro p e s m args below meth c s₁ X0 hexec hbytes hml hret hlk hnm hown hh0 W hP
  obtain ⟨rfl, hA, hB, hne, l1, l2, hp⟩ := hP
  have c1 : Steps p.tables e below (s₁.setTop (entryFrame m #[.ref b, .int (Int32.ofNat o), .ref d, .int (Int32.ofNat q), .int (Int32.ofNat len)] 7)) (s₁.setTop (mkF m 0 #[.val (.ref b), .val (.int (Int32.ofNat o)), .val (.ref d), .val (.int (Int32.ofNat q)), .val (.int (Int32.ofNat len)), .unset, .unset] [])) := entry rfl
  have hA0 := hA.1.mv X0.warmed.alike hh0
  have hB0 := hB.mv X0.warmed.alike hh0
  have a31 := hA.1.2.2.2
  have c2 : Steps p.tables e below (s₁.setTop (entryFrame m #[.ref b, .int (Int32.ofNat o), .ref d, .int (Int32.ofNat q), .int (Int32.ofNat len)] 7)) (s₁.setTop (mkF m 3 #[.val (.ref b), .val (.int (Int32.ofNat o)), .val (.ref d), .val (.int (Int32.ofNat q)), .val (.int (Int32.ofNat len)), .val (.int 0), .unset] [])) := c1.trans (by
    refine iconstV X0.here hexec rfl 0 (hb hbytes d0) (by decide) ?_
    refine XS.istore X0.here hexec rfl (hb hbytes d1) rfl rfl ?_
    exact Steps.refl _)
  have loop : ∀ (r i : Nat), i + r = len → ∀ (z : Slot), (z = .unset ∨ ∃ w, z = .val w ∧ w.category = 1) → ∀ (Tl : State) (Bk : Cell), Stand p l e { frames := 0, locals := 0, cells := 0, slots := 0 } s m #[.ref b, .int (Int32.ofNat o), .ref d, .int (Int32.ofNat q), .int (Int32.ofNat len)] below meth c Tl ([] ++ copyLocs d q i) 0 0 → Put d Bk s₁ Tl → Laid B Bk q (q + i) (fun j => Value.int (lo8 (cv A (o + (j - q))))) →
      Steps p.tables e below (s₁.setTop (entryFrame m #[.ref b, .int (Int32.ofNat o), .ref d, .int (Int32.ofNat q), .int (Int32.ofNat len)] 7)) (Tl.setTop (mkF m 3 #[.val (.ref b), .val (.int (Int32.ofNat (o + i))), .val (.ref d), .val (.int (Int32.ofNat (q + i))), .val (.int (Int32.ofNat len)), .val (.int (Int32.ofNat i)), z] [])) → ∃ (T' : State) (B' : Cell) (z' : Slot), Stand p l e { frames := 0, locals := 0, cells := 0, slots := 0 } s m #[.ref b, .int (Int32.ofNat o), .ref d, .int (Int32.ofNat q), .int (Int32.ofNat len)] below meth c T' ([] ++ copyLocs d q len) 0 0 ∧ Put d B' s₁ T' ∧ Laid B B' q (q + len) (fun j => Value.int (lo8 (cv A (o + (j - q))))) ∧
      Steps p.tables e below (s₁.setTop (entryFrame m #[.ref b, .int (Int32.ofNat o), .ref d, .int (Int32.ofNat q), .int (Int32.ofNat len)] 7)) (T'.setTop (mkF m 3 #[.val (.ref b), .val (.int (Int32.ofNat (o + len))), .val (.ref d), .val (.int (Int32.ofNat (q + len))), .val (.int (Int32.ofNat len)), .val (.int (Int32.ofNat len)), z'] [])) := by
    intro r
    induction r with
    | zero =>
      intro i hi z hz Tl Bk Xl pl fl cl
      have hil : i = len := by omega
      rw [hil] at Xl fl cl
      exact ⟨Tl, Bk, z, Xl, pl, fl, cl⟩
    | succ r ih =>
      intro i hi z hz Tl Bk Xl pl fl cl
      have all := X0.warmed.alike.symm.trans Xl.warmed.alike
      have hAl := hA0.keep all (pl.other hne hA0.1)
      have hBk := hB0.like all pl.1 fl.1 fl.2.1 fl.2.2.1
      have hlt : q + i < Bk.slots.size := by rw [fl.2.2.1]; omega
      have c3 : Steps p.tables e below (s₁.setTop (entryFrame m #[.ref b, .int (Int32.ofNat o), .ref d, .int (Int32.ofNat q), .int (Int32.ofNat len)] 7)) (Tl.setTop (mkF m 12 #[.val (.ref b), .val (.int (Int32.ofNat (o + i))), .val (.ref d), .val (.int (Int32.ofNat (q + i))), .val (.int (Int32.ofNat len)), .val (.int (Int32.ofNat i)), z] [.int (Int32.ofNat (o + i)), .ref b])) := cl.trans (by
        refine XS.iload Xl.here hexec rfl (hb hbytes d3) rfl ?_
        refine XS.iload Xl.here hexec rfl (hb hbytes d5) rfl ?_
        refine XS.icmpNo Xl.here hexec rfl (hb hbytes d7) rfl (ii_ge_f (lt32 (by omega) (by omega))) ?_
        refine XS.aloadN Xl.here hexec rfl (hb hbytes d10) rfl rfl ?_
        refine XS.iloadN Xl.here hexec rfl (hb hbytes d11) rfl ?_
        exact Steps.refl _)
      have c4 : Steps p.tables e below (s₁.setTop (entryFrame m #[.ref b, .int (Int32.ofNat o), .ref d, .int (Int32.ofNat q), .int (Int32.ofNat len)] 7)) (Tl.setTop (mkF m 13 #[.val (.ref b), .val (.int (Int32.ofNat (o + i))), .val (.ref d), .val (.int (Int32.ofNat (q + i))), .val (.int (Int32.ofNat len)), .val (.int (Int32.ofNat i)), z] [.int (cv A (o + i))])) := c3.trans (by
        refine Xl.aget hexec hAl rfl (hA.get (i := o + i) (by omega)) rfl rfl (hb hbytes d12) ?_
        exact Steps.refl _)
      have c5 : Steps p.tables e below (s₁.setTop (entryFrame m #[.ref b, .int (Int32.ofNat o), .ref d, .int (Int32.ofNat q), .int (Int32.ofNat len)] 7)) (Tl.setTop (mkF m 15 #[.val (.ref b), .val (.int (Int32.ofNat (o + i))), .val (.ref d), .val (.int (Int32.ofNat (q + i))), .val (.int (Int32.ofNat len)), .val (.int (Int32.ofNat i)), .val (.int (cv A (o + i)))] [])) := c4.trans (by
        refine XS.istoreS Xl.here hexec rfl (hb hbytes d13) rfl rfl hz ?_
        exact Steps.refl _)
      have c6 : Steps p.tables e below (s₁.setTop (entryFrame m #[.ref b, .int (Int32.ofNat o), .ref d, .int (Int32.ofNat q), .int (Int32.ofNat len)] 7)) (Tl.setTop (mkF m 31 #[.val (.ref b), .val (.int (Int32.ofNat (o + i))), .val (.ref d), .val (.int (Int32.ofNat (q + i))), .val (.int (Int32.ofNat len)), .val (.int (Int32.ofNat i)), .val (.int (cv A (o + i)))] [.int (lo8 (cv A (o + i))), .int (Int32.ofNat (q + i)), .ref d])) := c5.trans (by
        refine XS.iload Xl.here hexec rfl (hb hbytes d15) rfl ?_
        refine sipushV Xl.here hexec rfl 255 (hb hbytes d17) (by decide) ?_
        refine XS.icmpYes Xl.here hexec rfl (pc0 := 20) rfl (hb hbytes d20) rfl (ii_le_t (hp i (by omega))) (by decide) rfl ?_
        refine XS.aloadN Xl.here hexec rfl (hb hbytes d26) rfl rfl ?_
        refine XS.iloadN Xl.here hexec rfl (hb hbytes d27) rfl ?_
        refine XS.iload Xl.here hexec rfl (hb hbytes d28) rfl ?_
        refine i2b Xl.here hexec rfl (hb hbytes d30) rfl ?_
        exact Steps.refl _)
      obtain ⟨T7, X7, p7, st7⟩ := Xl.aput hexec hBk rfl hlt rfl (fits_lo8 (cv A (o + i))) (g := (mkF m 31 #[.val (.ref b), .val (.int (Int32.ofNat (o + i))), .val (.ref d), .val (.int (Int32.ofNat (q + i))), .val (.int (Int32.ofNat len)), .val (.int (Int32.ofNat i)), .val (.int (cv A (o + i)))] [.int (lo8 (cv A (o + i))), .int (Int32.ofNat (q + i)), .ref d])) rfl (rest := []) rfl (hb hbytes d31)
      have c8 : Steps p.tables e below (s₁.setTop (entryFrame m #[.ref b, .int (Int32.ofNat o), .ref d, .int (Int32.ofNat q), .int (Int32.ofNat len)] 7)) (T7.setTop (mkF m 32 #[.val (.ref b), .val (.int (Int32.ofNat (o + i))), .val (.ref d), .val (.int (Int32.ofNat (q + i))), .val (.int (Int32.ofNat len)), .val (.int (Int32.ofNat i)), .val (.int (cv A (o + i)))] [])) := c6.trans (st7 _ (Steps.refl _))
      have c9 : Steps p.tables e below (s₁.setTop (entryFrame m #[.ref b, .int (Int32.ofNat o), .ref d, .int (Int32.ofNat q), .int (Int32.ofNat len)] 7)) (T7.setTop (mkF m 3 #[.val (.ref b), .val (.int (Int32.ofNat (o + i) + 1)), .val (.ref d), .val (.int (Int32.ofNat (q + i) + 1)), .val (.int (Int32.ofNat len)), .val (.int (Int32.ofNat i + 1)), .val (.int (cv A (o + i)))] [])) := c8.trans (by
        refine iincV X7.here hexec rfl 1 (hb hbytes d32) (by decide) rfl rfl ?_
        refine iincV X7.here hexec rfl 1 (hb hbytes d35) (by decide) rfl rfl ?_
        refine iincV X7.here hexec rfl 1 (hb hbytes d38) (by decide) rfl rfl ?_
        refine XS.goto X7.here hexec rfl (pc0 := 41) rfl (hb hbytes d41) (by decide) rfl ?_
        exact Steps.refl _)
      have c10 : Steps p.tables e below (s₁.setTop (entryFrame m #[.ref b, .int (Int32.ofNat o), .ref d, .int (Int32.ofNat q), .int (Int32.ofNat len)] 7)) (T7.setTop (mkF m 3 #[.val (.ref b), .val (.int (Int32.ofNat (o + (i + 1)))), .val (.ref d), .val (.int (Int32.ofNat (q + (i + 1)))), .val (.int (Int32.ofNat len)), .val (.int (Int32.ofNat (i + 1))), .val (.int (cv A (o + i)))] [])) := by
        have := c9
        rw [succ32, succ32, succ32] at this
        exact this
      exact ih (i + 1) (by omega) _ (Or.inr ⟨_, rfl, rfl⟩) T7 _ (by rw [copyLocs_step, ← List.append_assoc]; exact X7) (pl.trans p7) (fl.step (by omega) hlt (by simp)) c10
  obtain ⟨T9, B9, z9, X9, p9, f9, g9⟩ := loop len 0 (by omega) .unset (Or.inl rfl) s₁ B (by simpa [copyLocs] using X0) ⟨hB0.1, fun _ _ => rfl, rfl⟩ (Laid.zero _ _ _) c2
  have c11 : Steps p.tables e below (s₁.setTop (entryFrame m #[.ref b, .int (Int32.ofNat o), .ref d, .int (Int32.ofNat q), .int (Int32.ofNat len)] 7)) (T9.setTop (mkF m 46 #[.val (.ref b), .val (.int (Int32.ofNat (o + len))), .val (.ref d), .val (.int (Int32.ofNat (q + len))), .val (.int (Int32.ofNat len)), .val (.int (Int32.ofNat len)), z9] [.int (Int32.ofNat len)])) := g9.trans (by
    refine XS.iload X9.here hexec rfl (hb hbytes d3) rfl ?_
    refine XS.iload X9.here hexec rfl (hb hbytes d5) rfl ?_
    refine XS.icmpYes X9.here hexec rfl (pc0 := 7) rfl (hb hbytes d7) rfl (ii_ge_t (nlt32 (by omega) (Nat.le_refl _))) (by decide) rfl ?_
    refine XS.iload X9.here hexec rfl (hb hbytes d44) rfl ?_
    exact Steps.refl _)
  exact ⟨T9, some (.int (Int32.ofNat len)), _, _, _, X9, by simp, rfl, rfl, (fun h => by cases h), ⟨rfl, B9, p9.from hh0, f9⟩, fun fs hl => c11.trans (X9.ireturnOut hexec hret rfl (Or.inl rfl) (hb hbytes d46) hl)⟩
end Cmp5
namespace Cmp3
def yN : MethodName := ⟨"java/lang/StringUTF16", "compress", "([CII)[B"⟩
abbrev yB : ByteArray := jdk_52_method_16_code
theorem d0 : decode yB 0 = .ok (.iload_n 2, 1) := by decide +kernel
theorem d1 : decode yB 1 = .ok (.newarray .byte, 2) := by decide +kernel
theorem d3 : decode yB 3 = .ok (.astore_n 3, 1) := by decide +kernel
theorem d4 : decode yB 4 = .ok (.aload_n 0, 1) := by decide +kernel
theorem d5 : decode yB 5 = .ok (.iload_n 1, 1) := by decide +kernel
theorem d6 : decode yB 6 = .ok (.aload_n 3, 1) := by decide +kernel
theorem d7 : decode yB 7 = .ok (.iconst 0, 1) := by decide +kernel
theorem d8 : decode yB 8 = .ok (.iload_n 2, 1) := by decide +kernel
theorem d9 : decode yB 9 = .ok (.invokestatic 115, 3) := by decide +kernel
theorem d12 : decode yB 12 = .ok (.istore 4, 2) := by decide +kernel
theorem d14 : decode yB 14 = .ok (.iload 4, 2) := by decide +kernel
theorem d16 : decode yB 16 = .ok (.iload_n 2, 1) := by decide +kernel
theorem d17 : decode yB 17 = .ok (.if_icmp (.eq) 40, 3) := by decide +kernel
theorem d57 : decode yB 57 = .ok (.aload_n 3, 1) := by decide +kernel
theorem d58 : decode yB 58 = .ok (.areturn, 1) := by decide +kernel
def site : List Cond := [.arrayClass .byte, Cmp5.tab] ++ staticW U16 115 Cmp5.yN
def tab : Cond := tabOf yN yB 6 (some (.array .byte)) site
def P (b : Addr) (A : Cell) (o len : Nat) (args : Array Value) (s : State) : Prop := args = #[.ref b, .int (Int32.ofNat o), .int (Int32.ofNat len)] ∧ Ch b A s ∧ o + len ≤ A.slots.size ∧ len ≤ 536870912 ∧ ∀ i, i < len → ¬ 255 < cv A (o + i)
def E (b : Addr) (A : Cell) (o len : Nat) (r : Option Value) (s u : State) : Prop := NewArr .byte "[B" len (fun j => .int (lo8 (cv A (o + j)))) r s u ∧ u.heap.size = s.heap.size + 1
/-- no char of the range above 255: a new byte[] of their low bytes -/
theorem law (l : Launch) (b : Addr) (A : Cell) (o len : Nat) : Law l yN 3 3 1 18 yB 6 (some (.array .byte)) site (P b A o len) (E b A o len) [] 1 len := by
  refine Law.of_walk (plainFor_of_name (by decide +kernel)) (by decide +kernel) (by decide +kernel) (by decide) (fun _ _ h => by rw [h.1]; rfl) (fun _ U U' hal hh h => ⟨h.1, h.2.1.mv hal hh, h.2.2⟩) (fun r U U' V V' h1 hal h2 h => ⟨NewArr.mv r U U' V V' h1 hal h2 h.1, by rw [h1, h2]; exact h.2⟩) ?_
  intro p e s m args below meth c s₁ X0 hexec hbytes hml hret hlk hnm hown hh0 W hP
  obtain ⟨rfl, hA, l1, l2, hp⟩ := hP
  have a31 := hA.1.2.2.2
  have c1 : Steps p.tables e below (s₁.setTop (entryFrame m #[.ref b, .int (Int32.ofNat o), .int (Int32.ofNat len)] 6)) (s₁.setTop (mkF m 0 #[.val (.ref b), .val (.int (Int32.ofNat o)), .val (.int (Int32.ofNat len)), .unset, .unset, .unset] [])) := entry rfl
  have c2 : Steps p.tables e below (s₁.setTop (entryFrame m #[.ref b, .int (Int32.ofNat o), .int (Int32.ofNat len)] 6)) (s₁.setTop (mkF m 1 #[.val (.ref b), .val (.int (Int32.ofNat o)), .val (.int (Int32.ofNat len)), .unset, .unset, .unset] [.int (Int32.ofNat len)])) := c1.trans (by
    refine XS.iloadN X0.here hexec rfl (hb hbytes d0) rfl ?_
    exact Steps.refl _)
  obtain ⟨T3, B3, X3, ba3, bs3, bv3, bh3, bf3, st3⟩ := X0.anew hexec (atype := .byte) (wk W (.arrayClass .byte)) rfl (by show len * 1 ≤ _; omega) (by omega) (g := (mkF m 1 #[.val (.ref b), .val (.int (Int32.ofNat o)), .val (.int (Int32.ofNat len)), .unset, .unset, .unset] [.int (Int32.ofNat len)])) rfl (hb hbytes d1) (rest := []) rfl (Nat.le_refl _) (by show 0 + len ≤ len; omega)
  rw [hh0] at ba3 st3
  have kp3 : XT.Kept s T3 := (XT.Kept.of_eq hh0).push bh3
  have hA3 := hA.keep X3.warmed.alike (kp3 _ _ hA.1.1)
  have hne : b ≠ s.heap.size := hA.1.ne
  have c4 : Steps p.tables e below (s₁.setTop (entryFrame m #[.ref b, .int (Int32.ofNat o), .int (Int32.ofNat len)] 6)) (T3.setTop (mkF m 3 #[.val (.ref b), .val (.int (Int32.ofNat o)), .val (.int (Int32.ofNat len)), .unset, .unset, .unset] [.ref s.heap.size])) := c2.trans (st3 _ (Steps.refl _))
  have c5 : Steps p.tables e below (s₁.setTop (entryFrame m #[.ref b, .int (Int32.ofNat o), .int (Int32.ofNat len)] 6)) (T3.setTop (mkF m 9 #[.val (.ref b), .val (.int (Int32.ofNat o)), .val (.int (Int32.ofNat len)), .val (.ref s.heap.size), .unset, .unset] [.int (Int32.ofNat len), .int 0, .ref s.heap.size, .int (Int32.ofNat o), .ref b])) := c4.trans (by
    refine XS.astoreN X3.here hexec rfl (hb hbytes d3) rfl rfl rfl ?_
    refine XS.aloadN X3.here hexec rfl (hb hbytes d4) rfl rfl ?_
    refine XS.iloadN X3.here hexec rfl (hb hbytes d5) rfl ?_
    refine XS.aloadN X3.here hexec rfl (hb hbytes d6) rfl rfl ?_
    refine iconstV X3.here hexec rfl 0 (hb hbytes d7) (by decide) ?_
    refine XS.iloadN X3.here hexec rfl (hb hbytes d8) rfl ?_
    exact Steps.refl _)
  obtain ⟨v6, T6, X6, E6, g6⟩ := X3.callS hexec (Cmp5.law l b A s.heap.size B3 o 0 len) hown (wks W (staticW U16 115 Cmp5.yN)) (wk W Cmp5.tab) (W := 0) (Nat.le_of_ble_eq_true rfl) (Nat.le_of_ble_eq_true rfl) (Nat.le_refl _) (by show 0 + len + 0 ≤ len; omega) (g := (mkF m 9 #[.val (.ref b), .val (.int (Int32.ofNat o)), .val (.int (Int32.ofNat len)), .val (.ref s.heap.size), .unset, .unset] [.int (Int32.ofNat len), .int (Int32.ofNat 0), .ref s.heap.size, .int (Int32.ofNat o), .ref b])) rfl (by rw [hml]; rfl) c5 (argsL := [.ref b, .int (Int32.ofNat o), .ref s.heap.size, .int (Int32.ofNat 0), .int (Int32.ofNat len)]) (rest := []) rfl rfl (by show 2 * 0 + 0 ≤ _; decide) (hb hbytes d9) (⟨rfl, hA3, ba3, hne, l1, by rw [bs3]; simp, hp⟩)
  obtain ⟨rfl, B6, p6, f6⟩ := E6
  have c7 : Steps p.tables e below (s₁.setTop (entryFrame m #[.ref b, .int (Int32.ofNat o), .int (Int32.ofNat len)] 6)) (T6.setTop (mkF m 12 #[.val (.ref b), .val (.int (Int32.ofNat o)), .val (.int (Int32.ofNat len)), .val (.ref s.heap.size), .unset, .unset] [.int (Int32.ofNat len)])) := g6
  have c8 : Steps p.tables e below (s₁.setTop (entryFrame m #[.ref b, .int (Int32.ofNat o), .int (Int32.ofNat len)] 6)) (T6.setTop (mkF m 58 #[.val (.ref b), .val (.int (Int32.ofNat o)), .val (.int (Int32.ofNat len)), .val (.ref s.heap.size), .val (.int (Int32.ofNat len)), .unset] [.ref s.heap.size])) := c7.trans (by
    refine XS.istore X6.here hexec rfl (hb hbytes d12) rfl rfl ?_
    refine XS.iload X6.here hexec rfl (hb hbytes d14) rfl ?_
    refine XS.iloadN X6.here hexec rfl (hb hbytes d16) rfl ?_
    refine XS.icmpYes X6.here hexec rfl (pc0 := 17) rfl (hb hbytes d17) rfl (ii_eq_t rfl) (by decide) rfl ?_
    refine XS.aloadN X6.here hexec rfl (hb hbytes d57) rfl rfl ?_
    exact Steps.refl _)
  have X8 := X6.wide (L' := []) (cells' := 1) (slots' := len) (fun x hx hlt => by
    simp only [List.nil_append, copyLocs, List.mem_map, List.mem_range] at hx
    obtain ⟨i, -, rfl⟩ := hx
    exact absurd hlt (Nat.lt_irrefl _)) (Nat.le_refl _) (by omega)
  exact ⟨T6, some (.ref s.heap.size), _, _, _, X8, rfl, rfl, rfl, (fun h => by cases h), ⟨⟨rfl, B6, ba3.like (X3.warmed.alike.symm.trans X6.warmed.alike) p6.1 f6.1 f6.2.1 f6.2.2.1, f6.2.1.trans bv3, by rw [X6.warmed.alike.findClass, f6.1]; exact bf3, by rw [f6.2.2.1, bs3]; simp, fun j hj => by rw [f6.2.2.2 j, if_pos (by omega)]; rfl, kp3.put p6 (Nat.le_refl _)⟩, by rw [p6.2.2, bh3, hh0]; simp⟩, fun fs hl => c8.trans (X8.areturnOut hexec rfl hret rfl (hb hbytes d58) hl)⟩
end Cmp3
namespace CodL
def yN : MethodName := ⟨"java/lang/StringUTF16", "coderFromArrayLen", "([BI)B"⟩
abbrev yB : ByteArray := jdk_52_method_15_code
theorem d0 : decode yB 0 = .ok (.iload_n 1, 1) := by decide +kernel
theorem d1 : decode yB 1 = .ok (.aload_n 0, 1) := by decide +kernel
theorem d2 : decode yB 2 = .ok (.arraylength, 1) := by decide +kernel
theorem d3 : decode yB 3 = .ok (.isub, 1) := by decide +kernel
theorem d4 : decode yB 4 = .ok (.bipush 31, 2) := by decide +kernel
theorem d6 : decode yB 6 = .ok (.iushr, 1) := by decide +kernel
theorem d7 : decode yB 7 = .ok (.i2b, 1) := by decide +kernel
theorem d8 : decode yB 8 = .ok (.ireturn, 1) := by decide +kernel
def site : List Cond := []
def tab : Cond := tabOf yN yB 2 (some .byte) site
def P (d : Addr) (B : Cell) (args : Array Value) (s : State) : Prop := args = #[.ref d, .int (Int32.ofNat B.slots.size)] ∧ Arr .byte d B s
def E (r : Option Value) (s u : State) : Prop := XT.PureE (some (.int 0)) r s u
/-- an array as long as the number of chars: LATIN1 -/
theorem law (l : Launch) (d : Addr) (B : Cell) : Law l yN 2 2 0 0 yB 2 (some .byte) site (P d B) E [] 0 0 := by
  refine Law.of_walk (plainFor_of_name (by decide +kernel)) (by decide +kernel) (by decide +kernel) (by decide) (fun _ _ h => by rw [h.1]; rfl) (fun _ U U' hal hh h => ⟨h.1, h.2.mv hal hh⟩) (fun r U U' V V' h1 hal h2 h => XT.PureE.mv r U U' V V' h1 hal h2 h) ?_
  intro p e s m args below meth c s₁ X0 hexec hbytes hml hret hlk hnm hown hh0 W hP
  obtain ⟨rfl, hB⟩ := hP
  have hB0 := hB.mv X0.warmed.alike hh0
  have c1 : Steps p.tables e below (s₁.setTop (entryFrame m #[.ref d, .int (Int32.ofNat B.slots.size)] 2)) (s₁.setTop (mkF m 0 #[.val (.ref d), .val (.int (Int32.ofNat B.slots.size))] [])) := entry rfl
  have c2 : Steps p.tables e below (s₁.setTop (entryFrame m #[.ref d, .int (Int32.ofNat B.slots.size)] 2)) (s₁.setTop (mkF m 2 #[.val (.ref d), .val (.int (Int32.ofNat B.slots.size))] [.ref d, .int (Int32.ofNat B.slots.size)])) := c1.trans (by
    refine XS.iloadN X0.here hexec rfl (hb hbytes d0) rfl ?_
    refine XS.aloadN X0.here hexec rfl (hb hbytes d1) rfl rfl ?_
    exact Steps.refl _)
  have c3 : Steps p.tables e below (s₁.setTop (entryFrame m #[.ref d, .int (Int32.ofNat B.slots.size)] 2)) (s₁.setTop (mkF m 8 #[.val (.ref d), .val (.int (Int32.ofNat B.slots.size))] [.int (lo8 (ushr (Int32.ofNat B.slots.size - Int32.ofNat B.slots.size) 31))])) := c2.trans (by
    refine X0.alen hexec hB0 rfl rfl (hb hbytes d2) ?_
    refine XS.isub X0.here hexec rfl (hb hbytes d3) rfl ?_
    refine bipushV X0.here hexec rfl 31 (hb hbytes d4) (by decide) ?_
    refine iushr X0.here hexec rfl (hb hbytes d6) rfl ?_
    refine i2b X0.here hexec rfl (hb hbytes d7) rfl ?_
    exact Steps.refl _)
  have e0 : lo8 (ushr (Int32.ofNat B.slots.size - Int32.ofNat B.slots.size) 31) = 0 := by rw [Int32.sub_self]; decide
  rw [e0] at c3
  exact ⟨s₁, some (.int 0), _, _, _, X0, rfl, rfl, rfl, (fun h => by cases h), ⟨rfl, hh0⟩, fun fs hl => c3.trans (X0.ireturnOut hexec hret rfl (Or.inr (Or.inr (Or.inl rfl))) (hb hbytes d8) hl)⟩
end CodL
/-- the String at a is Latin-1 over a new byte[] (the heap's one new cell): the low bytes of the len chars of A from o on; every cell but a is kept -/
def Got (a : Addr) (D : Cell) (fV fC : Field) (A : Cell) (o len : Nat) (r : Option Value) (s u : State) : Prop := r = none ∧ ∃ D' V : Cell, Blank "java/lang/String" a D' u ∧ Same D D' [fV.slot, fC.slot] ∧ D'.slots[fV.slot]? = some (.ref s.heap.size) ∧ D'.slots[fC.slot]? = some (.int 0) ∧ Arr .byte s.heap.size V u ∧ V.vm = .none ∧ u.vm.findClass "[B" = some V.cls ∧ V.slots.size = len ∧ (∀ j, j < len → V.slots[j]? = some (.int (lo8 (cv A (o + j))))) ∧ (∀ (y : Addr) (c : Cell), y ≠ a → s.heap[y]? = some c → u.heap[y]? = some c) ∧ u.heap.size = s.heap.size + 1
theorem Got.mv {a : Addr} {D A : Cell} {fV fC : Field} {o len : Nat} : ∀ r (U U' V V' : State), U'.heap = U.heap → V.vm.Alike V'.vm → V'.heap = V.heap → Got a D fV fC A o len r U V → Got a D fV fC A o len r U' V' :=
  fun r U U' V V' h1 hal h2 ⟨e0, D', X, a1, a2, a3, a4, a5, a6, a7, a8, a9, a10, a11⟩ => ⟨e0, D', X, a1.mv hal h2, a2, by rw [h1]; exact a3, a4, by rw [h1]; exact a5.mv hal h2, a6, by rw [hal.findClass]; exact a7, a8, a9, by rw [h1, h2]; exact a10, by rw [h1, h2]; exact a11⟩
namespace New4
def yN : MethodName := ⟨"java/lang/String", "<init>", "([CIILjava/lang/Void;)V"⟩
abbrev yB : ByteArray := jdk_42_method_149_code
theorem d0 : decode yB 0 = .ok (.aload_n 0, 1) := by decide +kernel
theorem d1 : decode yB 1 = .ok (.invokespecial 1, 3) := by decide +kernel
theorem d4 : decode yB 4 = .ok (.iload_n 3, 1) := by decide +kernel
theorem d5 : decode yB 5 = .ok (.ifCond (.ne) 22, 3) := by decide +kernel
theorem d27 : decode yB 27 = .ok (.getstatic 38, 3) := by decide +kernel
theorem d30 : decode yB 30 = .ok (.ifCond (.eq) 28, 3) := by decide +kernel
theorem d33 : decode yB 33 = .ok (.aload_n 1, 1) := by decide +kernel
theorem d34 : decode yB 34 = .ok (.iload_n 2, 1) := by decide +kernel
theorem d35 : decode yB 35 = .ok (.iload_n 3, 1) := by decide +kernel
theorem d36 : decode yB 36 = .ok (.invokestatic 177, 3) := by decide +kernel
theorem d39 : decode yB 39 = .ok (.astore 5, 2) := by decide +kernel
theorem d41 : decode yB 41 = .ok (.aload_n 0, 1) := by decide +kernel
theorem d42 : decode yB 42 = .ok (.aload 5, 2) := by decide +kernel
theorem d44 : decode yB 44 = .ok (.iload_n 3, 1) := by decide +kernel
theorem d45 : decode yB 45 = .ok (.invokestatic 47, 3) := by decide +kernel
theorem d48 : decode yB 48 = .ok (.putfield 15, 3) := by decide +kernel
theorem d51 : decode yB 51 = .ok (.aload_n 0, 1) := by decide +kernel
theorem d52 : decode yB 52 = .ok (.aload 5, 2) := by decide +kernel
theorem d54 : decode yB 54 = .ok (.putfield 9, 3) := by decide +kernel
theorem d57 : decode yB 57 = .ok (.return_, 1) := by decide +kernel
def site : List Cond := [.fieldLink "java/lang/String" 38 "java/lang/String" "COMPACT_STRINGS" "Z", Cmp3.tab, CodL.tab, .laysFinal "java/lang/String" "java/lang/String" "value" "[B", .fieldLink "java/lang/String" 9 "java/lang/String" "value" "[B", .laysFinal "java/lang/String" "java/lang/String" "coder" "B", .fieldLink "java/lang/String" 15 "java/lang/String" "coder" "B"] ++ objW "java/lang/String" 1 ++ staticW "java/lang/String" 177 Cmp3.yN ++ staticW "java/lang/String" 47 CodL.yN
def tab : Cond := tabOf yN yB 6 none site
def P (a : Addr) (D : Cell) (fV fC : Field) (b : Addr) (A : Cell) (z : Int32) (o len : Nat) (args : Array Value) (s : State) : Prop := args = #[.ref a, .ref b, .int (Int32.ofNat o), .int (Int32.ofNat len), .null] ∧ Blank "java/lang/String" a D s ∧ Found "java/lang/String" "value" "[B" fV s ∧ Found "java/lang/String" "coder" "B" fC s ∧ Ch b A s ∧ StaticIs s "java/lang/String" "COMPACT_STRINGS" "Z" (.int z) ∧ ¬ z = 0 ∧ 0 < len ∧ o + len ≤ A.slots.size ∧ len ≤ 536870912 ∧ ∀ i, i < len → ¬ 255 < cv A (o + i)
def E (a : Addr) (D : Cell) (fV fC : Field) (A : Cell) (o len : Nat) (r : Option Value) (s u : State) : Prop := Got a D fV fC A o len r s u
/-- len > 0, no char of the range above 255: a Latin-1 String of their low bytes -/
theorem law (l : Launch) (a : Addr) (D : Cell) (fV fC : Field) (b : Addr) (A : Cell) (z : Int32) (o len : Nat) : Law l yN 5 4 2 35 yB 6 none site (P a D fV fC b A z o len) (E a D fV fC A o len) [⟨a, fC.slot⟩, ⟨a, fV.slot⟩] 1 len := by
  refine Law.of_walk (plainFor_of_name (by decide +kernel)) (by decide +kernel) (by decide +kernel) (by decide) (fun _ _ h => by rw [h.1]; rfl) (fun _ U U' hal hh h => ⟨h.1, h.2.1.mv hal hh, h.2.2.1.al hal, h.2.2.2.1.al hal, h.2.2.2.2.1.mv hal hh, h.2.2.2.2.2.1.there hal hh, h.2.2.2.2.2.2⟩) (fun r U U' V V' h1 hal h2 h => Got.mv r U U' V V' h1 hal h2 h) ?_
  intro p e s m args below meth c s₁ X0 hexec hbytes hml hret hlk hnm hown hh0 W hP
  obtain ⟨rfl, hB, f1, f2, hA, s1, hz, l0, l1, l2, hp⟩ := hP
  have a31 := hA.1.2.2.2
  have c1 : Steps p.tables e below (s₁.setTop (entryFrame m #[.ref a, .ref b, .int (Int32.ofNat o), .int (Int32.ofNat len), .null] 6)) (s₁.setTop (mkF m 0 #[.val (.ref a), .val (.ref b), .val (.int (Int32.ofNat o)), .val (.int (Int32.ofNat len)), .val .null, .unset] [])) := entry rfl
  have c2 : Steps p.tables e below (s₁.setTop (entryFrame m #[.ref a, .ref b, .int (Int32.ofNat o), .int (Int32.ofNat len), .null] 6)) (s₁.setTop (mkF m 1 #[.val (.ref a), .val (.ref b), .val (.int (Int32.ofNat o)), .val (.int (Int32.ofNat len)), .val .null, .unset] [.ref a])) := c1.trans (by
    refine XS.aloadN X0.here hexec rfl (hb hbytes d0) rfl rfl ?_
    exact Steps.refl _)
  obtain ⟨T3, X3, q3, st3⟩ := X0.oinit hexec hown (wks W (objW "java/lang/String" 1)) (g := (mkF m 1 #[.val (.ref a), .val (.ref b), .val (.int (Int32.ofNat o)), .val (.int (Int32.ofNat len)), .val .null, .unset] [.ref a])) rfl (by rw [hml]; rfl) (rest := []) rfl (hb hbytes d1) (W := 0) (by show 2 * 0 + 0 ≤ _; decide) (Nat.le_of_ble_eq_true rfl) (Nat.le_of_ble_eq_true rfl)
  have hh3 := q3.trans hh0
  have c4 : Steps p.tables e below (s₁.setTop (entryFrame m #[.ref a, .ref b, .int (Int32.ofNat o), .int (Int32.ofNat len), .null] 6)) (T3.setTop (mkF m 27 #[.val (.ref a), .val (.ref b), .val (.int (Int32.ofNat o)), .val (.int (Int32.ofNat len)), .val .null, .unset] [])) := (c2.trans (st3 _ (Steps.refl _))).trans (by
    refine XS.iloadN X3.here hexec rfl (hb hbytes d4) rfl ?_
    refine XS.ifYes X3.here hexec rfl (pc0 := 5) rfl (hb hbytes d5) rfl (i0_ne_t (nz32 (by omega) l0)) (by decide) rfl ?_
    exact Steps.refl _)
  obtain ⟨T5, X5, q5, st5⟩ := X3.sget hexec hown (wk W (.fieldLink "java/lang/String" 38 "java/lang/String" "COMPACT_STRINGS" "Z")) s1 (fun _ _ h => by rw [hh3]; exact h) (g := (mkF m 27 #[.val (.ref a), .val (.ref b), .val (.int (Int32.ofNat o)), .val (.int (Int32.ofNat len)), .val .null, .unset] [])) rfl (hb hbytes d27)
  have hh5 := q5.trans hh3
  have c6 : Steps p.tables e below (s₁.setTop (entryFrame m #[.ref a, .ref b, .int (Int32.ofNat o), .int (Int32.ofNat len), .null] 6)) (T5.setTop (mkF m 30 #[.val (.ref a), .val (.ref b), .val (.int (Int32.ofNat o)), .val (.int (Int32.ofNat len)), .val .null, .unset] [.int z])) := c4.trans (st5 _ (Steps.refl _))
  have c7 : Steps p.tables e below (s₁.setTop (entryFrame m #[.ref a, .ref b, .int (Int32.ofNat o), .int (Int32.ofNat len), .null] 6)) (T5.setTop (mkF m 36 #[.val (.ref a), .val (.ref b), .val (.int (Int32.ofNat o)), .val (.int (Int32.ofNat len)), .val .null, .unset] [.int (Int32.ofNat len), .int (Int32.ofNat o), .ref b])) := c6.trans (by
    refine XS.ifNo X5.here hexec rfl (hb hbytes d30) rfl (i0_eq_f hz) ?_
    refine XS.aloadN X5.here hexec rfl (hb hbytes d33) rfl rfl ?_
    refine XS.iloadN X5.here hexec rfl (hb hbytes d34) rfl ?_
    refine XS.iloadN X5.here hexec rfl (hb hbytes d35) rfl ?_
    exact Steps.refl _)
  obtain ⟨v8, T8, X8, E8, g8⟩ := X5.callS hexec (Cmp3.law l b A o len) hown (wks W (staticW "java/lang/String" 177 Cmp3.yN)) (wk W Cmp3.tab) (W := 0) (Nat.le_of_ble_eq_true rfl) (Nat.le_of_ble_eq_true rfl) (Nat.le_refl _) (by show 0 + len ≤ len; omega) (g := (mkF m 36 #[.val (.ref a), .val (.ref b), .val (.int (Int32.ofNat o)), .val (.int (Int32.ofNat len)), .val .null, .unset] [.int (Int32.ofNat len), .int (Int32.ofNat o), .ref b])) rfl (by rw [hml]; rfl) c7 (argsL := [.ref b, .int (Int32.ofNat o), .int (Int32.ofNat len)]) (rest := []) rfl rfl (by show 2 * 0 + 0 ≤ _; decide) (hb hbytes d36) (⟨rfl, hA.mv X5.warmed.alike hh5, l1, l2, hp⟩)
  obtain ⟨e8, z8⟩ := E8
  obtain ⟨rfl, N, n1, n2, n3, n4, n5, n6⟩ := NewArr.mv _ T5 s _ _ hh5.symm (Vm.Alike.refl _) rfl e8
  rw [hh5] at z8
  have hB1 := hB.keep X8.warmed.alike (n6 _ _ hB.1)
  have hne : s.heap.size ≠ a := (Nat.ne_of_lt (Array.getElem?_eq_some_iff.mp hB.1).1).symm
  have c9 : Steps p.tables e below (s₁.setTop (entryFrame m #[.ref a, .ref b, .int (Int32.ofNat o), .int (Int32.ofNat len), .null] 6)) (T8.setTop (mkF m 39 #[.val (.ref a), .val (.ref b), .val (.int (Int32.ofNat o)), .val (.int (Int32.ofNat len)), .val .null, .unset] [.ref s.heap.size])) := g8
  have c10 : Steps p.tables e below (s₁.setTop (entryFrame m #[.ref a, .ref b, .int (Int32.ofNat o), .int (Int32.ofNat len), .null] 6)) (T8.setTop (mkF m 45 #[.val (.ref a), .val (.ref b), .val (.int (Int32.ofNat o)), .val (.int (Int32.ofNat len)), .val .null, .val (.ref s.heap.size)] [.int (Int32.ofNat N.slots.size), .ref s.heap.size, .ref a])) := by
    have hc : Steps p.tables e below (s₁.setTop (entryFrame m #[.ref a, .ref b, .int (Int32.ofNat o), .int (Int32.ofNat len), .null] 6)) (T8.setTop (mkF m 45 #[.val (.ref a), .val (.ref b), .val (.int (Int32.ofNat o)), .val (.int (Int32.ofNat len)), .val .null, .val (.ref s.heap.size)] [.int (Int32.ofNat len), .ref s.heap.size, .ref a])) := c9.trans (by
      refine XS.astore X8.here hexec rfl (hb hbytes d39) rfl rfl rfl ?_
      refine XS.aloadN X8.here hexec rfl (hb hbytes d41) rfl rfl ?_
      refine XS.aload X8.here hexec rfl (hb hbytes d42) rfl rfl ?_
      refine XS.iloadN X8.here hexec rfl (hb hbytes d44) rfl ?_
      exact Steps.refl _)
    rw [n4]; exact hc
  obtain ⟨v11, T11, X11, E11, g11⟩ := X8.callS hexec (CodL.law l s.heap.size N) hown (wks W (staticW "java/lang/String" 47 CodL.yN)) (wk W CodL.tab) (W := 1) (Nat.le_of_ble_eq_true rfl) (Nat.le_of_ble_eq_true rfl) (Nat.le_refl _) (by show 0 + len + 0 ≤ len; omega) (g := (mkF m 45 #[.val (.ref a), .val (.ref b), .val (.int (Int32.ofNat o)), .val (.int (Int32.ofNat len)), .val .null, .val (.ref s.heap.size)] [.int (Int32.ofNat N.slots.size), .ref s.heap.size, .ref a])) rfl (by rw [hml]; rfl) c10 (argsL := [.ref s.heap.size, .int (Int32.ofNat N.slots.size)]) (rest := [.ref a]) rfl rfl (by show 2 * 0 + (1 + 0) ≤ _; decide) (hb hbytes d45) (⟨rfl, n1⟩)
  obtain ⟨rfl, q11⟩ := E11
  have hB11 := hB1.mv (X8.warmed.alike.symm.trans X11.warmed.alike) q11
  have c12 : Steps p.tables e below (s₁.setTop (entryFrame m #[.ref a, .ref b, .int (Int32.ofNat o), .int (Int32.ofNat len), .null] 6)) (T11.setTop (mkF m 48 #[.val (.ref a), .val (.ref b), .val (.int (Int32.ofNat o)), .val (.int (Int32.ofNat len)), .val .null, .val (.ref s.heap.size)] [.int 0, .ref a])) := g11
  obtain ⟨T13, X13, p13, bl13, sl13, st13⟩ := X11.finit hexec hown (wk W (.fieldLink "java/lang/String" 15 "java/lang/String" "coder" "B")) (Or.inr ⟨_, (wk W (.laysFinal "java/lang/String" "java/lang/String" "coder" "B"))⟩) (Or.inl ⟨rfl, hnm⟩) f2 (Or.inl rfl) hB11 (t := .byte) (by decide +kernel) rfl (g := (mkF m 48 #[.val (.ref a), .val (.ref b), .val (.int (Int32.ofNat o)), .val (.int (Int32.ofNat len)), .val .null, .val (.ref s.heap.size)] [.int 0, .ref a])) rfl (rest := []) rfl (hb hbytes d48)
  have c14 : Steps p.tables e below (s₁.setTop (entryFrame m #[.ref a, .ref b, .int (Int32.ofNat o), .int (Int32.ofNat len), .null] 6)) (T13.setTop (mkF m 54 #[.val (.ref a), .val (.ref b), .val (.int (Int32.ofNat o)), .val (.int (Int32.ofNat len)), .val .null, .val (.ref s.heap.size)] [.ref s.heap.size, .ref a])) := (c12.trans (st13 _ (Steps.refl _))).trans (by
    refine XS.aloadN X13.here hexec rfl (hb hbytes d51) rfl rfl ?_
    refine XS.aload X13.here hexec rfl (hb hbytes d52) rfl rfl ?_
    exact Steps.refl _)
  obtain ⟨T15, X15, p15, bl15, sl15, st15⟩ := X13.finit hexec hown (wk W (.fieldLink "java/lang/String" 9 "java/lang/String" "value" "[B")) (Or.inr ⟨_, (wk W (.laysFinal "java/lang/String" "java/lang/String" "value" "[B"))⟩) (Or.inl ⟨rfl, hnm⟩) f1 (Or.inl rfl) bl13 (t := (.array .byte)) (by decide +kernel) rfl (g := (mkF m 54 #[.val (.ref a), .val (.ref b), .val (.int (Int32.ofNat o)), .val (.int (Int32.ofNat len)), .val .null, .val (.ref s.heap.size)] [.ref s.heap.size, .ref a])) rfl (rest := []) rfl (hb hbytes d54)
  have c16 : Steps p.tables e below (s₁.setTop (entryFrame m #[.ref a, .ref b, .int (Int32.ofNat o), .int (Int32.ofNat len), .null] 6)) (T15.setTop (mkF m 57 #[.val (.ref a), .val (.ref b), .val (.int (Int32.ofNat o)), .val (.int (Int32.ofNat len)), .val .null, .val (.ref s.heap.size)] [])) := c14.trans (st15 _ (Steps.refl _))
  have ap := apart (Or.inr ⟨_, (wk W (.laysFinal "java/lang/String" "java/lang/String" "value" "[B"))⟩) (Or.inr ⟨_, (wk W (.laysFinal "java/lang/String" "java/lang/String" "coder" "B"))⟩) f1 f2 (t₁ := .array .byte) (t₂ := .byte) (by decide +kernel) (by decide +kernel) (by decide)
  have al := X8.warmed.alike.symm.trans X15.warmed.alike
  have n7 : T11.heap[s.heap.size]? = some N := by rw [q11]; exact n1.1
  exact ⟨T15, none, _, _, _, X15, by simp, rfl, by omega, (fun _ => rfl), ⟨rfl, _, N, bl15, ((Same.refl D _).set _ (by simp)).set _ (by simp), sl15, (Cell.slots_setSlot_ne _ ap).trans sl13, n1.keep al (p15.other hne (p13.other hne n7)), n2, by rw [al.findClass]; exact n3, n4, n5, fun y c h1 h2 => p15.other h1 (p13.other h1 (by rw [q11]; exact n6 y c h2)), by rw [p15.2.2, p13.2.2, q11]; exact z8⟩, fun fs hl => c16.trans (X15.returnOut hexec hret (hb hbytes d57) hl)⟩
end New4
namespace New1
def yN : MethodName := ⟨"java/lang/String", "<init>", "([C)V"⟩
abbrev yB : ByteArray := jdk_42_method_3_code
theorem d0 : decode yB 0 = .ok (.aload_n 0, 1) := by decide +kernel
theorem d1 : decode yB 1 = .ok (.aload_n 1, 1) := by decide +kernel
theorem d2 : decode yB 2 = .ok (.iconst 0, 1) := by decide +kernel
theorem d3 : decode yB 3 = .ok (.aload_n 1, 1) := by decide +kernel
theorem d4 : decode yB 4 = .ok (.arraylength, 1) := by decide +kernel
theorem d5 : decode yB 5 = .ok (.aconst_null, 1) := by decide +kernel
theorem d6 : decode yB 6 = .ok (.invokespecial 27, 3) := by decide +kernel
theorem d9 : decode yB 9 = .ok (.return_, 1) := by decide +kernel
def site : List Cond := [New4.tab] ++ initW "java/lang/String" 27 New4.yN
def tab : Cond := tabOf yN yB 2 none site
def P (a : Addr) (D : Cell) (fV fC : Field) (b : Addr) (A : Cell) (z : Int32) (args : Array Value) (s : State) : Prop := args = #[.ref a, .ref b] ∧ Blank "java/lang/String" a D s ∧ Found "java/lang/String" "value" "[B" fV s ∧ Found "java/lang/String" "coder" "B" fC s ∧ Ch b A s ∧ StaticIs s "java/lang/String" "COMPACT_STRINGS" "Z" (.int z) ∧ ¬ z = 0 ∧ 0 < A.slots.size ∧ A.slots.size ≤ 536870912 ∧ ∀ i, i < A.slots.size → ¬ 255 < cv A i
def E (a : Addr) (D : Cell) (fV fC : Field) (A : Cell) (r : Option Value) (s u : State) : Prop := Got a D fV fC A 0 A.slots.size r s u
/-- new String(chars), not empty, no char above 255: a Latin-1 String of their low bytes -/
theorem law (l : Launch) (a : Addr) (D : Cell) (fV fC : Field) (b : Addr) (A : Cell) (z : Int32) : Law l yN 2 1 3 52 yB 2 none site (P a D fV fC b A z) (E a D fV fC A) [⟨a, fC.slot⟩, ⟨a, fV.slot⟩] 1 A.slots.size := by
  refine Law.of_walk (plainFor_of_name (by decide +kernel)) (by decide +kernel) (by decide +kernel) (by decide) (fun _ _ h => by rw [h.1]; rfl) (fun _ U U' hal hh h => ⟨h.1, h.2.1.mv hal hh, h.2.2.1.al hal, h.2.2.2.1.al hal, h.2.2.2.2.1.mv hal hh, h.2.2.2.2.2.1.there hal hh, h.2.2.2.2.2.2⟩) (fun r U U' V V' h1 hal h2 h => Got.mv r U U' V V' h1 hal h2 h) ?_
  intro p e s m args below meth c s₁ X0 hexec hbytes hml hret hlk hnm hown hh0 W hP
  obtain ⟨rfl, hB, f1, f2, hA, s1, hz, l0, l2, hp⟩ := hP
  have c1 : Steps p.tables e below (s₁.setTop (entryFrame m #[.ref a, .ref b] 2)) (s₁.setTop (mkF m 0 #[.val (.ref a), .val (.ref b)] [])) := entry rfl
  have c2 : Steps p.tables e below (s₁.setTop (entryFrame m #[.ref a, .ref b] 2)) (s₁.setTop (mkF m 6 #[.val (.ref a), .val (.ref b)] [.null, .int (Int32.ofNat A.slots.size), .int 0, .ref b, .ref a])) := c1.trans (by
    refine XS.aloadN X0.here hexec rfl (hb hbytes d0) rfl rfl ?_
    refine XS.aloadN X0.here hexec rfl (hb hbytes d1) rfl rfl ?_
    refine iconstV X0.here hexec rfl 0 (hb hbytes d2) (by decide) ?_
    refine XS.aloadN X0.here hexec rfl (hb hbytes d3) rfl rfl ?_
    refine X0.alen hexec (hA.1.mv X0.warmed.alike hh0) rfl rfl (hb hbytes d4) ?_
    refine XS.aconstNull X0.here hexec rfl (hb hbytes d5) ?_
    exact Steps.refl _)
  obtain ⟨v3, T3, X3, E3, g3⟩ := X0.callN hexec (New4.law l a D fV fC b A z 0 A.slots.size) rfl hown (wks W (initW "java/lang/String" 27 New4.yN)) (W New4.tab (by simp only [site, List.mem_cons, List.mem_append, true_or, or_true])) (W := 0) (Nat.le_of_ble_eq_true rfl) (Nat.le_of_ble_eq_true rfl) (Nat.le_refl _) (by show 0 + A.slots.size ≤ A.slots.size; omega) (g := (mkF m 6 #[.val (.ref a), .val (.ref b)] [.null, .int (Int32.ofNat A.slots.size), .int (Int32.ofNat 0), .ref b, .ref a])) rfl (by rw [hml]; rfl) c2 (argsL := [.ref b, .int (Int32.ofNat 0), .int (Int32.ofNat A.slots.size), .null]) (rest := []) rfl rfl (by show 2 * 0 + 0 ≤ _; decide) (hb hbytes d6) (⟨rfl, hB.mv X0.warmed.alike hh0, f1.al X0.warmed.alike, f2.al X0.warmed.alike, hA.mv X0.warmed.alike hh0, s1.there X0.warmed.alike hh0, hz, l0, by omega, l2, fun i hi => by rw [Nat.zero_add]; exact hp i hi⟩)
  have e0 := Got.mv _ s₁ s _ _ hh0.symm (Vm.Alike.refl _) rfl E3
  obtain rfl := e0.1
  have c4 : Steps p.tables e below (s₁.setTop (entryFrame m #[.ref a, .ref b] 2)) (T3.setTop (mkF m 9 #[.val (.ref a), .val (.ref b)] [])) := g3
  exact ⟨T3, none, _, _, _, X3, by simp, rfl, by omega, (fun _ => rfl), e0, fun fs hl => c4.trans (X3.returnOut hexec hret (hb hbytes d9) hl)⟩
theorem pays {l : Launch} {R : Room} {p : Program} {e : Env} {below : List Frame} {s : State} {sargs : Array Value} {len W : Nat} (a : Addr) (D : Cell) (fV fC : Field) (b : Addr) (A : Cell) (z : Int32) (htab : tab.before sargs s = true) (hfr : 4 ≤ R.frames) (hlo : W + 65 ≤ R.locals) :
    Back l R p e below s sargs yN len W (fun A₁ a₁ => A₁.cells + 1 ≤ R.cells ∧ A₁.slots + A.slots.size ≤ R.slots ∧ P a D fV fC b A z a₁ A₁.U) (fun A₁ _ v₁ B₁ => E a D fV fC A v₁ A₁.U B₁.U ∧ B₁.locs = A₁.locs ++ [⟨a, fC.slot⟩, ⟨a, fV.slot⟩] ∧ B₁.cells = A₁.cells + 1 ∧ B₁.slots = A₁.slots + A.slots.size) :=
  (law l a D fV fC b A z).pays htab hfr (by omega)
end New1
/-- the byte, read back as charAt reads it, is the char -/
theorem lo8_mask {x : Int32} (h0 : ¬ x < 0) (h1 : ¬ 255 < x) : lo8 x &&& 255 = x := by
  have t : ∀ k : Fin 256, lo8 (Int32.ofNat k.val) &&& 255 = Int32.ofNat k.val := by decide +kernel
  rw [Int32.lt_iff_toInt_lt] at h0 h1
  have e0 : (0 : Int32).toInt = 0 := rfl
  have e1 : (255 : Int32).toInt = 255 := rfl
  obtain ⟨k, hk⟩ : ∃ k : Nat, x.toInt = k := ⟨x.toInt.toNat, by omega⟩
  have hx : x = Int32.ofNat k := Int32.toInt_inj.mp (by rw [hk, Int32.toInt_ofNat_small (by omega)])
  rw [hx]
  exact t ⟨k, by omega⟩
end StrChars
namespace StrChars.Road
open Jvm Sem ClassFile Op Lib Jvm.Stand Jvm.Free Jvm.Free.XT
open Jvm.Lib.Cold (StaticIs)
abbrev ST : String := "java/lang/String"
/-- every table word that New1's law asks, flat -/
abbrev words : List Jvm.Cond := [.code New1.yN New1.yB 2 none, .initialized ST, .methodLink ST 27 New4.yN, .instanceMethod New4.yN,
  .code New4.yN New4.yB 6 none, .fieldLink ST 38 ST "COMPACT_STRINGS" "Z", .laysFinal ST ST "value" "[B", .fieldLink ST 9 ST "value" "[B", .laysFinal ST ST "coder" "B", .fieldLink ST 15 ST "coder" "B",
  .methodLink ST 1 Lib.objectInit, .instanceMethod Lib.objectInit, .code Lib.objectInit ⟨#[0xb1]⟩ 1 none, .methodLink ST 177 Cmp3.yN, .static Cmp3.yN, .methodLink ST 47 CodL.yN, .static CodL.yN,
  .code Cmp3.yN Cmp3.yB 6 (some (.array .byte)), .initialized U16, .arrayClass .byte, .methodLink U16 115 Cmp5.yN, .static Cmp5.yN, .code Cmp5.yN Cmp5.yB 7 (some .int), .code CodL.yN CodL.yB 2 (some .byte)]
theorem tab_of {a : Array Value} {s : State} (h : ∀ w ∈ words, w.before a s = true) : New1.tab.before a s = true := by
  have h5 : Cmp5.tab.before a s = true := unparts (wk h (.code Cmp5.yN Cmp5.yB 7 (some .int))) (wks h (.initialized Cmp5.yN.cls :: Cmp5.site))
  have hc : CodL.tab.before a s = true := unparts (wk h (.code CodL.yN CodL.yB 2 (some .byte))) (wks h (.initialized CodL.yN.cls :: CodL.site))
  have q5 : ∀ w ∈ Cmp5.tab :: words, w.before a s = true := fun w hw => (List.mem_cons.mp hw).elim (fun e => e ▸ h5) (h w)
  have h3 : Cmp3.tab.before a s = true := unparts (wk q5 (.code Cmp3.yN Cmp3.yB 6 (some (.array .byte)))) (wks q5 (.initialized Cmp3.yN.cls :: Cmp3.site))
  have q3 : ∀ w ∈ Cmp3.tab :: CodL.tab :: words, w.before a s = true := fun w hw => (List.mem_cons.mp hw).elim (fun e => e ▸ h3) fun hw => (List.mem_cons.mp hw).elim (fun e => e ▸ hc) (h w)
  have h4 : New4.tab.before a s = true := unparts (wk q3 (.code New4.yN New4.yB 6 none)) (wks q3 (.initialized New4.yN.cls :: New4.site))
  have q4 : ∀ w ∈ New4.tab :: words, w.before a s = true := fun w hw => (List.mem_cons.mp hw).elim (fun e => e ▸ h4) (h w)
  exact unparts (wk q4 (.code New1.yN New1.yB 2 none)) (wks q4 (.initialized New1.yN.cls :: New1.site))
/-- the words ride from the start Z to the walk's own state -/
theorem moved {Z s : State} {a0 args : Array Value} (hZ : Z.Warmed39 s.vm) (hw : ∀ d ∈ words, d.before a0 Z = true) : ∀ d ∈ words, d.before args s = true := fun d hd => by
  have q := hw d hd
  have t : ∀ d ∈ words, d = .arrayClass .byte ∨ (d.onTables && d.keepsFace) = true := by decide +kernel
  rcases t d hd with rfl | t
  · exact RoadKit.mvA hZ q
  · exact RoadKit.mv hZ q t
/-- WHAT COMES BACK, over the tables of the start Z: h the heap at the call, h' behind it -/
def Q (Z : State) (x : Addr) (A : Cell) (h : Heap) (v : Option Value) (h' : Heap) (L : List Loc) : Prop := v = none ∧ (∀ y ∈ L, y.base = x) ∧ RoadKit.Keep h h' [x] ∧ h'.size = h.size + 1 ∧ RoadKit.Exa Z h' x ST ∧ RoadKit.Fld Z h' x ST "value" "[B" (.ref h.size) ∧ RoadKit.Fld Z h' x ST "coder" "B" (.int 0) ∧
  (∃ V : Cell, RoadKit.Arr Z h' h.size V .byte ∧ V.vm = .none ∧ Z.vm.findClass "[B" = some V.cls ∧ V.slots.size = A.slots.size ∧ ∀ j, j < A.slots.size → V.slots[j]? = some (.int (lo8 (cv A j)))) ∧
  ∀ (O n d : String) (w : Value), RoadKit.Fld Z h x O n d w → RoadKit.slotOf Z O n d ≠ RoadKit.slotOf Z ST "value" "[B" → RoadKit.slotOf Z O n d ≠ RoadKit.slotOf Z ST "coder" "B" → RoadKit.Fld Z h' x O n d w
/-- **new String(chars) AT A CALL, IN THE ROAD'S FORM**: for specialBack behind newO: x the fresh String, b the char[] with the cell A -/
theorem back {p : Program} {l : Launch} {e : Env} {R : Room} {s : State} {args : Array Value} {below : List Frame} {len W : Nat} {Z : State} {a0 : Array Value} {h : Heap} (hZ : Z.Warmed39 s.vm) (hw : ∀ d ∈ words, d.before a0 Z = true) {kI : Nat} (wi : (Jvm.Cond.instantiable ST kI).before a0 Z = true)
    {x b : Addr} {A : Cell} {z : Int32} {v0 c0 : Value} (E : RoadKit.Exa Z h x ST) (V : RoadKit.Fld Z h x ST "value" "[B" v0) (C : RoadKit.Fld Z h x ST "coder" "B" c0) (K : RoadKit.Arr Z h b A .char) (hty : Typed .char A) (S : RoadKit.Sta Z h ST "COMPACT_STRINGS" "Z" (.int z)) (hz : ¬ z = 0)
    (l0 : 0 < A.slots.size) (l2 : A.slots.size ≤ 536870912) (hp : ∀ i, i < A.slots.size → ¬ 255 < cv A i) (hfr : 4 ≤ R.frames) (hlo : W + 65 ≤ R.locals) :
    Back l R p e below s args New1.yN len W (fun P a => a = #[.ref x, .ref b] ∧ P.U.heap = h ∧ P.cells + 1 ≤ R.cells ∧ P.slots + A.slots.size ≤ R.slots)
      (fun P _ v B => ∃ L, Q Z x A h v B.U.heap L ∧ B.locs = P.locs ++ L ∧ B.cells = P.cells + 1 ∧ B.slots = P.slots + A.slots.size) := by
  intro m meth c P g ig mk a X hg hsize hdg hW hn hp'
  obtain ⟨rfl, rfl, r1, r2⟩ := hp'
  have al : Z.vm.Alike P.U.vm := hZ.alike.trans X.warmed.alike
  obtain ⟨D, cfV, kV, iV, fV, hD, gV, stV, knV, obV, asV, slV⟩ := id V
  obtain ⟨D', cfC, kC, iC, fC, hD', gC, stC, -, -, asC, slC⟩ := id C
  cases hD.symm.trans hD'
  obtain ⟨D2, kD, e1, e2, e3, e4, e5⟩ := id E
  cases hD.symm.trans e1
  obtain ⟨c2, k2, i1, i2, i3, -⟩ := Cond.instantiable_spec wi
  cases e2.symm.trans i1
  cases e3.symm.trans i2
  obtain ⟨kU, u1, u2⟩ := al.2.2 _ _ e3
  have hB : Blank ST x D P.U := ⟨hD, ⟨knV, fun q hq => by rw [hq] at obV; cases obV⟩, by rw [al.findClass]; exact e2, kU, u1, by rw [u2]; exact i3, by rw [u2]; exact e5 i3⟩
  have F1 : Found ST "value" "[B" fV P.U := ⟨SBG.found_only al ⟨cfV, kV, iV, gV⟩, stV⟩
  have F2 : Found ST "coder" "B" fC P.U := ⟨SBG.found_only al ⟨cfC, kC, iC, gC⟩, stC⟩
  have hA : Ch b A P.U := ⟨⟨K.1, State.isArrayOf_alike al K.2.1, K.2.2, by omega⟩, hty⟩
  have hS : StaticIs P.U ST "COMPACT_STRINGS" "Z" (.int z) := by
    obtain ⟨cfS, iS, kS, fS, st, cS, t1, t2, t3, t4, t5, t6, t7⟩ := S
    exact StaticIs.there (s := { Z with heap := P.U.heap }) ⟨cfS, iS, kS, fS, st, cS, t1, t2, t3, t4, t5, (fun q => by rw [q] at t6; cases t6), t7⟩ al rfl
  obtain ⟨v, B, X', ⟨⟨hv, E', V', q1, q2, q3, q4, q5, q6, q7, q8, q9, q10, q11⟩, hl, hc, hs⟩, st⟩ := New1.pays x D fV fC b A z (tab_of (moved hZ hw)) hfr hlo m meth c P g ig mk _ X hg hsize hdg hW hn ⟨r1, r2, rfl, hB, F1, F2, hA, hS, hz, l0, l2, hp⟩
  have al' : Z.vm.Alike B.U.vm := hZ.alike.trans X'.warmed.alike
  have hsz : E'.slots.size = D.slots.size := by
    obtain ⟨-, -, -, kB, w1, w2, w3⟩ := q1
    obtain ⟨kB', y1, y2⟩ := al'.2.2 _ _ e3
    rw [q2.2.1] at w1
    cases w1.symm.trans y1
    rw [w3, e5 i3, y2]
  refine ⟨v, B, X', ⟨_, ⟨hv, ?_, ⟨by omega, fun y cy hy hn' => q10 y cy (by simpa using hn') hy, fun y cy hy => ?_⟩, q11, ⟨E', _, q1.1, by rw [q2.2.1]; exact e2, by rw [q2.2.1]; exact e3, by rw [q2.1]; exact obV, fun _ => by rw [hsz]; exact e5 i3⟩,
    ⟨E', cfV, kV, iV, fV, q1.1, gV, stV, by rw [q2.1]; exact knV, by rw [q2.1]; exact obV, by rw [q2.2.1]; exact asV, q3⟩, ⟨E', cfC, kC, iC, fC, q1.1, gC, stC, by rw [q2.1]; exact knV, by rw [q2.1]; exact obV, by rw [q2.2.1]; exact asC, q4⟩,
    ⟨V', ⟨q5.1, State.isArrayOf_alike al'.symm q5.2.1, q5.2.2.1⟩, q6, by rw [← al'.findClass]; exact q7, q8, fun j hj => by have := q9 j hj; rwa [Nat.zero_add] at this⟩, fun O n d w F n1 n2 => ?_⟩, hl, hc, hs⟩, st⟩
  · intro y hy
    simp only [List.mem_cons, List.not_mem_nil, or_false] at hy
    rcases hy with rfl | rfl <;> rfl
  · by_cases q : y = x
    · subst q
      cases hD.symm.trans hy
      exact ⟨E', q1.1, q2.2.1, q2.1, hsz⟩
    · exact ⟨cy, q10 y cy q hy, rfl, rfl, rfl⟩
  · obtain ⟨D3, cf, k, i, f, g1, g2, g3, g4, g5, g6, g7⟩ := F
    cases hD.symm.trans g1
    simp only [RoadKit.slotOf, g2, gV, gC, Option.map_some, Option.getD_some] at n1 n2
    exact ⟨E', cf, k, i, f, q1.1, g2, g3, by rw [q2.1]; exact g4, by rw [q2.1]; exact g5, by rw [q2.2.1]; exact g6, by rw [q2.2.2 f.slot (by simp [n1, n2])]; exact g7⟩
end StrChars.Road
namespace StrChars.Road
open Jvm Sem ClassFile Op Lib Jvm.Stand Jvm.Free Jvm.Free.XT
/-- WHAT COMES BACK, the byte[] as a list of values -/
def QA (Z : State) (x : Addr) (zn : Int32) (cs : List Int32) (h : Heap) (v : Option Value) (h' : Heap) (L : List Loc) : Prop := v = none ∧ (∀ y ∈ L, y.base = x) ∧ RoadKit.Keep h h' [x] ∧ h'.size = h.size + 1 ∧ RoadKit.Exa Z h' x ST ∧ RoadKit.Fld Z h' x ST "value" "[B" (.ref h.size) ∧ RoadKit.Fld Z h' x ST "coder" "B" (.int 0) ∧
  (∃ kb, Z.vm.findClass "[B" = some kb ∧ RoadKit.Arv Z h' h.size kb .byte zn (cs.map fun c => .int (lo8 c)) (.int 0)) ∧
  ∀ (O n d : String) (w : Value), RoadKit.Fld Z h x O n d w → RoadKit.slotOf Z O n d ≠ RoadKit.slotOf Z ST "value" "[B" → RoadKit.slotOf Z O n d ≠ RoadKit.slotOf Z ST "coder" "B" → RoadKit.Fld Z h' x O n d w
/-- **new String(chars) AT A CALL, THE ARRAYS AS LISTS**: the char[] at b holds cs, not empty, no char above 255 -/
theorem backArv {p : Program} {l : Launch} {e : Env} {R : Room} {s : State} {args : Array Value} {below : List Frame} {len W : Nat} {Z : State} {a0 : Array Value} {h : Heap} (hZ : Z.Warmed39 s.vm) (hw : ∀ d ∈ words, d.before a0 Z = true) {kI : Nat} (wi : (Jvm.Cond.instantiable ST kI).before a0 Z = true)
    {x b : Addr} {k : ClassId} {zn z : Int32} {cs : List Int32} {dv v0 c0 : Value} (E : RoadKit.Exa Z h x ST) (V : RoadKit.Fld Z h x ST "value" "[B" v0) (C : RoadKit.Fld Z h x ST "coder" "B" c0) (K : RoadKit.Arv Z h b k .char zn (cs.map Value.int) dv) (S : RoadKit.Sta Z h ST "COMPACT_STRINGS" "Z" (.int z)) (hz : ¬ z = 0)
    (hlen : zn.toNatClampNeg = cs.length) (h0 : 0 < cs.length) (hbig : cs.length ≤ 536870912) (hall : ∀ c ∈ cs, ¬ 255 < c) (hfr : 4 ≤ R.frames) (hlo : W + 65 ≤ R.locals) :
    Back l R p e below s args New1.yN len W (fun P a => a = #[.ref x, .ref b] ∧ P.U.heap = h ∧ P.cells + 1 ≤ R.cells ∧ P.slots + cs.length ≤ R.slots)
      (fun P _ v B => ∃ L, QA Z x zn cs h v B.U.heap L ∧ B.locs = P.locs ++ L ∧ B.cells = P.cells + 1 ∧ B.slots = P.slots + cs.length) := by
  obtain ⟨A, K1, K2, K3, K4, K5, K6⟩ := K
  have e : A.slots.size = cs.length := K3.trans hlen
  have hat : ∀ (i : Nat) (hi : i < cs.length), A.slots[i]? = some (.int cs[i]) := fun i hi => by rw [K5 i (by omega)]; simp [List.getD_eq_getElem?_getD, hi]
  have hcv : ∀ (i : Nat) (hi : i < cs.length), cv A i = cs[i] := fun i hi => by unfold cv; rw [hat i hi]
  have hty : Typed .char A := fun i v hv => by
    have hi : i < A.slots.size := (Array.getElem?_eq_some_iff.mp hv).1
    have q := K5 i hi
    rw [hv] at q
    rw [Option.some.inj q]
    exact K6 i hi
  refine Back.mono (back hZ hw wi E V C K1 hty S hz (by omega) (by omega) (fun i hi => by rw [hcv i (by omega)]; exact hall _ (List.getElem_mem _)) hfr hlo) (fun P a hp => ⟨hp.1, hp.2.1, hp.2.2.1, by rw [e]; exact hp.2.2.2⟩) (fun P a v B hp hq => ?_)
  obtain ⟨L, ⟨q1, q2, q3, q4, q5, q6, q7, ⟨V', v1, v2, v3, v4, v5⟩, q9⟩, hl, hc, hs⟩ := hq
  refine ⟨L, ⟨q1, q2, q3, q4, q5, q6, q7, ⟨V'.cls, v3, V', v1, rfl, by rw [v4, e, hlen], K4, fun i hi => ?_, fun i hi => ?_⟩, q9⟩, hl, hc, by rw [hs, e]⟩
  · have hi' : i < cs.length := by omega
    rw [v5 i (by omega), hcv i hi']; simp [List.getD_eq_getElem?_getD, hi']
  · have hi' : i < cs.length := by omega
    simp only [List.getD_eq_getElem?_getD, List.getElem?_map, List.getElem?_eq_getElem hi', Option.map_some, Option.getD_some]
    exact fits_lo8 _
end StrChars.Road
namespace StrChars.Road
open Jvm Sem ClassFile Op Lib Jvm.Stand Jvm.Free Jvm.Free.XT
/-- WHAT COMES BACK, in the writer's own shape -/
def QV (Z : State) (x : Addr) (N : Int32) (bs : List Int32) (h : Heap) (n0 : Nat) (v : Option Value) (h' : Heap) (L : List Loc) : Prop := v = none ∧ RoadKit.Fr n0 L ∧ RoadKit.Keep h h' [x] ∧ RoadKit.Exa Z h' x ST ∧ RoadKit.Fld Z h' x ST "coder" "B" (.int 0) ∧
  ∃ (t : Addr) (kb : ClassId), n0 ≤ t ∧ h.size ≤ t ∧ ¬ t = x ∧ RoadKit.Fld Z h' x ST "value" "[B" (.ref t) ∧ RoadKit.Arv Z h' t kb .byte N (bs.map Value.int) (.int 0)
/-- **new String(chars) AT A CALL, FOR THE WRITER**: a char[] of n known ints, each 0 to 255 -/
theorem backV {p : Program} {l : Launch} {e : Env} {R : Room} {s : State} {args : Array Value} {below : List Frame} {len W : Nat} {Z : State} {a0 : Array Value} {h : Heap} (hZ : Z.Warmed39 s.vm) (hw : ∀ d ∈ words, d.before a0 Z = true) {kI : Nat} (wi : (Jvm.Cond.instantiable ST kI).before a0 Z = true)
    {x b : Addr} {kC : ClassId} {cs bs : List Int32} {d v0 c0 : Value} {z N : Int32} {n n0 : Nat} (hx0 : n0 ≤ x) (hh0 : n0 ≤ h.size) (E : RoadKit.Exa Z h x ST) (V : RoadKit.Fld Z h x ST "value" "[B" v0) (C : RoadKit.Fld Z h x ST "coder" "B" c0) (K : RoadKit.Arv Z h b kC .char N (cs.map Value.int) d) (S : RoadKit.Sta Z h ST "COMPACT_STRINGS" "Z" (.int z)) (hz : ¬ z = 0)
    (hn : cs.length = n) (hN : N = Int32.ofNat n) (l0 : 0 < n) (l2 : n ≤ 4000) (hp : ∀ c ∈ cs, ¬ c < 0 ∧ ¬ (255 : Int32) < c) (hb : bs = cs.map (fun c => c.toInt8.toInt32)) (hfr : 4 ≤ R.frames) (hlo : W + 65 ≤ R.locals) :
    Back l R p e below s args (⟨"java/lang/String", "<init>", "([C)V"⟩ : MethodName) len W (fun P a => a = #[.ref x, .ref b] ∧ P.U.heap = h ∧ P.cells + 1 ≤ R.cells ∧ P.slots + n ≤ R.slots)
      (fun P _ v B => ∃ L, QV Z x N bs h n0 v B.U.heap L ∧ B.locs = P.locs ++ L ∧ B.cells = P.cells + 1 ∧ B.slots = P.slots + n) := by
  subst hn hN hb
  refine Back.mono (backArv hZ hw wi E V C K S hz (n32 (by omega)) l0 (by omega) (fun c hc => (hp c hc).2) hfr hlo) (fun P a hp => hp) (fun P a v B hp hq => ?_)
  obtain ⟨L, ⟨q1, q2, q3, q4, q5, q6, q7, ⟨kb, v1, v2⟩, q9⟩, hl, hc, hs⟩ := hq
  exact ⟨L, ⟨q1, fun y hy => by rw [q2 y hy]; exact hx0, q3, q5, q7, h.size, kb, hh0, Nat.le_refl _, Nat.ne_of_gt E.lt, q6, by rw [List.map_map]; exact v2⟩, hl, hc, hs⟩
end StrChars.Road
namespace StrChars
open Jvm Sem ClassFile Op Lib Jvm.Stand Jvm.Free.XT Jvm.Free.ALB Jvm.Free.JM Jvm.Free
open Jvm.Lib.Cold (StaticIs)
def hi8 (x : Int32) : Int32 := lo8 (x >>> ((8 : Int32) &&& 31))
/-- what StringUTF16.getChar makes of two bytes -/
def pairCh (u v : Int32) : Int32 := (((u &&& 255) <<< ((0 : Int32) &&& 31)) ||| ((v &&& 255) <<< ((8 : Int32) &&& 31))).toUInt32.toUInt16.toUInt32.toInt32
theorem lo8_and (x : Int32) : (lo8 x &&& 255).toBitVec.toNat = x.toBitVec.toNat % 256 := by
  have h : (lo8 x).toBitVec = (x.toBitVec.signExtend 8).signExtend 32 := by rw [lo8, Int8.toBitVec_toInt32, Int32.toBitVec_toInt8]
  rw [Int32.toBitVec_and, BitVec.toNat_and, h]
  have e : ((x.toBitVec.signExtend 8).signExtend 32).toNat % 256 = x.toBitVec.toNat % 256 := by
    rw [BitVec.toNat_signExtend]
    have hlt := x.toBitVec.isLt
    simp only [BitVec.toNat_setWidth, BitVec.toNat_signExtend]
    split <;> split <;> omega
  rw [← e]
  exact Nat.and_two_pow_sub_one_eq_mod _ 8
theorem pair_says {c : Int32} (h0 : ¬ c < 0) (h1 : ¬ 65535 < c) : pairCh (lo8 c) (hi8 c) = c := by
  rw [Int32.lt_iff_toInt_lt] at h0 h1
  have e0 : (0 : Int32).toInt = 0 := rfl
  have e1 : (65535 : Int32).toInt = 65535 := rfl
  have hc : c.toInt = c.toBitVec.toNat := by
    have := c.toBitVec.isLt
    have e : c.toInt = c.toBitVec.toInt := rfl
    rw [e] at h0 h1
    rw [e]
    rw [BitVec.toInt_eq_toNat_cond] at h0 h1 ⊢
    split at h0 <;> split <;> omega
  have hn : c.toBitVec.toNat < 65536 := by omega
  have a1 := lo8_and c
  have a2 : (hi8 c &&& 255).toBitVec.toNat = c.toBitVec.toNat / 256 := by
    rw [hi8, lo8_and]
    have e : ((8 : Int32) &&& 31) = 8 := by decide
    rw [e, Int32.toBitVec_shiftRight]
    have e2 : ((8 : Int32).toBitVec.smod 32) = 8#32 := by decide
    rw [e2, BitVec.sshiftRight_eq', BitVec.toNat_sshiftRight_of_msb_false (by rw [BitVec.msb_eq_false_iff_two_mul_lt]; omega)]
    show c.toBitVec.toNat >>> 8 % 256 = _
    rw [Nat.shiftRight_eq_div_pow]
    omega
  unfold pairCh
  apply Int32.toBitVec_inj.mp
  apply BitVec.eq_of_toNat_eq
  have f0 : ((0 : Int32) &&& 31) = 0 := by decide
  have f8 : ((8 : Int32) &&& 31) = 8 := by decide
  rw [f0, f8]
  have g : (((lo8 c &&& 255) <<< (0 : Int32)) ||| ((hi8 c &&& 255) <<< (8 : Int32))).toBitVec.toNat = c.toBitVec.toNat := by
    rw [Int32.toBitVec_or, Int32.toBitVec_shiftLeft, Int32.toBitVec_shiftLeft]
    have s0 : ((0 : Int32).toBitVec.smod 32) = 0#32 := by decide
    have s8 : ((8 : Int32).toBitVec.smod 32) = 8#32 := by decide
    rw [s0, s8, BitVec.toNat_or]
    simp only [BitVec.shiftLeft_eq', BitVec.toNat_shiftLeft, a1, a2]
    show (c.toBitVec.toNat % 256) <<< 0 % 2 ^ 32 ||| (c.toBitVec.toNat / 256) <<< 8 % 2 ^ 32 = _
    rw [Nat.shiftLeft_zero, Nat.mod_eq_of_lt (show c.toBitVec.toNat % 256 < 2 ^ 32 by omega), Nat.mod_eq_of_lt (show (c.toBitVec.toNat / 256) <<< 8 < 2 ^ 32 by rw [Nat.shiftLeft_eq]; omega), Nat.or_comm, ← Nat.shiftLeft_add_eq_or_of_lt (by omega), Nat.shiftLeft_eq]
    omega
  show BitVec.toNat (((((lo8 c &&& 255) <<< (0 : Int32)) ||| ((hi8 c &&& 255) <<< (8 : Int32))).toBitVec.setWidth 16).setWidth 32) = _
  rw [BitVec.toNat_setWidth, BitVec.toNat_setWidth, g]
  omega
end StrChars
namespace StrChars
open Jvm Sem ClassFile Op Lib Jvm.Stand Jvm.Free.XT Jvm.Free.ALB Jvm.Free.JM Jvm.Free
open Jvm.Lib.Cold (StaticIs)
/-- the array's cell V codes the n chars f 0 .. f (n - 1) by the coder cd, as the JDK does: coder 1 just where some char is above 255 -/
def Cod (cd : Int32) (n : Nat) (f : Nat → Int32) (V : Cell) : Prop := (cd = 0 ∧ V.slots.size = n ∧ ∀ j, j < n → V.slots[j]? = some (.int (lo8 (f j))) ∧ ¬ 255 < f j) ∨ (cd = 1 ∧ V.slots.size = 2 * n ∧ (∀ j, j < n → V.slots[2 * j]? = some (.int (lo8 (f j))) ∧ V.slots[2 * j + 1]? = some (.int (hi8 (f j)))) ∧ ∃ j, j < n ∧ 255 < f j)
/-- **x is a String of the n chars f 0 .. f (n - 1)**, Latin-1 or UTF-16; its array at t has the cell V -/
def Txt (x t : Addr) (V : Cell) (cd : Int32) (n : Nat) (f : Nat → Int32) (U : State) : Prop := Exact "java/lang/String" x U ∧ Has x "java/lang/String" "value" "[B" (.ref t) U ∧ Has x "java/lang/String" "coder" "B" (.int cd) U ∧ XT.Arr .byte t V U ∧ Cod cd n f V ∧ ∀ j, j < n → ¬ f j < 0 ∧ ¬ 65535 < f j
theorem Txt.mv {x t : Addr} {V : Cell} {cd : Int32} {n : Nat} {f : Nat → Int32} {U U' : State} (h : Txt x t V cd n f U) (hal : U.vm.Alike U'.vm) (hh : U'.heap = U.heap) : Txt x t V cd n f U' := ⟨h.1.mv hal hh, h.2.1.mv hal hh, h.2.2.1.mv hal hh, h.2.2.2.1.mv hal hh, h.2.2.2.2⟩
end StrChars
namespace StrChars.Road
open Jvm Sem ClassFile Op Lib Jvm.Stand Jvm.Free Jvm.Free.XT
open Jvm.Lib.Cold (StaticIs)
theorem consq {a : Array Value} {s : State} {c : Jvm.Cond} {L : List Jvm.Cond} (h0 : c.before a s = true) (h : ∀ w ∈ L, w.before a s = true) : ∀ w ∈ c :: L, w.before a s = true := fun w hw => (List.mem_cons.mp hw).elim (fun e => e ▸ h0) (h w)
/-- the bytes of the chars cs, low before high -/
def wideBytes : List Int32 → List Value
  | [] => []
  | c :: cs => .int (lo8 c) :: .int (hi8 c) :: wideBytes cs
theorem wide_lo (d : Value) : ∀ (cs : List Int32) (j : Nat), j < cs.length → (wideBytes cs).getD (2 * j) d = .int (lo8 (cs.getD j 0))
  | [], j, h => absurd h (Nat.not_lt_zero j)
  | c :: cs, 0, _ => rfl
  | c :: cs, j + 1, h => by
    have q := wide_lo d cs j (by simpa using h)
    rw [show 2 * (j + 1) = 2 * j + 1 + 1 from by omega]
    simpa [wideBytes] using q
theorem wide_hi (d : Value) : ∀ (cs : List Int32) (j : Nat), j < cs.length → (wideBytes cs).getD (2 * j + 1) d = .int (hi8 (cs.getD j 0))
  | [], j, h => absurd h (Nat.not_lt_zero j)
  | c :: cs, 0, _ => rfl
  | c :: cs, j + 1, h => by
    have q := wide_hi d cs j (by simpa using h)
    rw [show 2 * (j + 1) + 1 = 2 * j + 1 + 1 + 1 from by omega]
    simpa [wideBytes] using q
theorem low_at (d : Value) (cs : List Int32) (j : Nat) (h : j < cs.length) : (cs.map fun c => Value.int (lo8 c)).getD j d = .int (lo8 (cs.getD j 0)) := by
  simp [List.getD_eq_getElem?_getD, h]
/-- an array of N2 bytes vs codes the chars cs by the coder cd -/
def CodA (cs : List Int32) (cd N2 : Int32) (vs : List Value) : Prop := (cd = 0 ∧ N2 = Int32.ofNat cs.length ∧ vs = (cs.map fun c => Value.int (lo8 c)) ∧ ∀ c ∈ cs, ¬ 255 < c) ∨ (cd = 1 ∧ N2 = Int32.ofNat (2 * cs.length) ∧ vs = wideBytes cs ∧ ∃ c ∈ cs, 255 < c)
theorem CodA.cod {cs : List Int32} {cd N2 : Int32} {vs : List Value} {V : Cell} (h : CodA cs cd N2 vs) (hn : 2 * cs.length < 2 ^ 31) (hs : V.slots.size = N2.toNatClampNeg) (hv : RoadKit.Has V vs (.int 0)) : Cod cd cs.length (fun j => cs.getD j 0) V := by
  rcases h with ⟨rfl, rfl, rfl, h⟩ | ⟨rfl, rfl, rfl, c, hc, hw⟩
  · rw [n32 (by omega)] at hs
    exact Or.inl ⟨rfl, hs, fun j hj => ⟨by rw [hv j (by omega), low_at _ _ _ hj], by
      have e : cs.getD j 0 = cs[j] := by simp [List.getD_eq_getElem?_getD, hj]
      show ¬ 255 < cs.getD j 0
      rw [e]; exact h _ (List.getElem_mem _)⟩⟩
  · rw [n32 (by omega)] at hs
    obtain ⟨j, hj, rfl⟩ := List.getElem_of_mem hc
    exact Or.inr ⟨rfl, hs, fun j hj => ⟨by rw [hv _ (by omega), wide_lo _ _ _ hj], by rw [hv _ (by omega), wide_hi _ _ _ hj]⟩, j, hj, by
      have e : cs.getD j 0 = cs[j] := by simp [List.getD_eq_getElem?_getD, hj]
      show 255 < cs.getD j 0
      rw [e]; exact hw⟩
/-- an object of exactly java/lang/String, its two fields found: as the laws ask it -/
theorem strObj {Z U : State} {a0 : Array Value} {kI : Nat} (wi : (Jvm.Cond.instantiable ST kI).before a0 Z = true) (al : Z.vm.Alike U.vm) {x : Addr} {v0 c0 : Value} (E : RoadKit.Exa Z U.heap x ST) (V : RoadKit.Fld Z U.heap x ST "value" "[B" v0) (C : RoadKit.Fld Z U.heap x ST "coder" "B" c0) :
    ∃ (D : Cell) (fV fC : Field), Blank ST x D U ∧ Found ST "value" "[B" fV U ∧ Found ST "coder" "B" fC U ∧ D.slots[fV.slot]? = some v0 ∧ D.slots[fC.slot]? = some c0 ∧ RoadKit.slotOf Z ST "value" "[B" = fV.slot ∧ RoadKit.slotOf Z ST "coder" "B" = fC.slot := by
  obtain ⟨D, cfV, kV, iV, fV, hD, gV, stV, knV, obV, asV, slV⟩ := V
  obtain ⟨D', cfC, kC, iC, fC, hD', gC, stC, -, -, asC, slC⟩ := C
  cases hD.symm.trans hD'
  obtain ⟨D2, kD, e1, e2, e3, e4, e5⟩ := E
  cases hD.symm.trans e1
  obtain ⟨c2, k2, i1, i2, i3, -⟩ := Cond.instantiable_spec wi
  cases e2.symm.trans i1
  cases e3.symm.trans i2
  obtain ⟨kU, u1, u2⟩ := al.2.2 _ _ e3
  exact ⟨D, fV, fC, ⟨hD, ⟨knV, fun q hq => by rw [hq] at obV; cases obV⟩, by rw [al.findClass]; exact e2, kU, u1, by rw [u2]; exact i3, by rw [u2]; exact e5 i3⟩, ⟨SBG.found_only al ⟨cfV, kV, iV, gV⟩, stV⟩, ⟨SBG.found_only al ⟨cfC, kC, iC, gC⟩, stC⟩, slV, slC, by simp [RoadKit.slotOf, gV], by simp [RoadKit.slotOf, gC]⟩
theorem sta_is {Z U : State} (al : Z.vm.Alike U.vm) {C n d : String} {v : Value} (S : RoadKit.Sta Z U.heap C n d v) : StaticIs U C n d v := by
  obtain ⟨cfS, iS, kS, fS, st, cS, t1, t2, t3, t4, t5, t6, t7⟩ := S
  exact StaticIs.there (s := { Z with heap := U.heap }) ⟨cfS, iS, kS, fS, st, cS, t1, t2, t3, t4, t5, (fun q => by rw [q] at t6; cases t6), t7⟩ al rfl
end StrChars.Road
namespace StrChars
open Jvm Sem ClassFile Op Lib Jvm.Stand Jvm.Free.XT Jvm.Free.ALB Jvm.Free.JM Jvm.Free
open Jvm.Lib.Cold (StaticIs)
/-- what place i of a byte[]'s cell holds -/
def yv (A : Cell) (i : Nat) : Int32 := match A.slots[i]? with | some (.int x) => x | _ => 0
theorem yv_get {a : Addr} {A : Cell} {U : State} (h : XT.Arr .byte a A U) (ht : Typed .byte A) {i : Nat} (hi : i < A.slots.size) : A.slots[i]? = some (.int (yv A i)) := by
  have e := Array.getElem?_eq_getElem hi
  have f := ht i _ e
  unfold yv; rw [e]
  generalize A.slots[i] = v at f
  cases v <;> simp [fits] at f ⊢
/-- the two arrays are equal, place for place -/
def EqC (A B : Cell) : Prop := A.slots.size = B.slots.size ∧ ∀ i, i < A.slots.size → yv A i = yv B i
/-- a boolean that says whether p -/
def Says01 (q : Prop) (r : Option Value) (s u : State) : Prop := ∃ v : Int32, r = some (.int v) ∧ u.heap = s.heap ∧ ((v = 1 ∧ q) ∨ (v = 0 ∧ ¬ q))
theorem Says01.mv {q : Prop} : ∀ r (U U' V V' : State), U'.heap = U.heap → V.vm.Alike V'.vm → V'.heap = V.heap → Says01 q r U V → Says01 q r U' V' :=
  fun r U U' V V' h1 _ h2 ⟨v, a, b, c⟩ => ⟨v, a, by rw [h1, h2]; exact b, c⟩
namespace LEq
def yN : MethodName := ⟨"java/lang/StringLatin1", "equals", "([B[B)Z"⟩
abbrev yB : ByteArray := jdk_43_method_13_code
theorem d0 : decode yB 0 = .ok (.aload_n 0, 1) := by decide +kernel
theorem d1 : decode yB 1 = .ok (.arraylength, 1) := by decide +kernel
theorem d2 : decode yB 2 = .ok (.aload_n 1, 1) := by decide +kernel
theorem d3 : decode yB 3 = .ok (.arraylength, 1) := by decide +kernel
theorem d4 : decode yB 4 = .ok (.if_icmp (.ne) 30, 3) := by decide +kernel
theorem d7 : decode yB 7 = .ok (.iconst 0, 1) := by decide +kernel
theorem d8 : decode yB 8 = .ok (.istore_n 2, 1) := by decide +kernel
theorem d9 : decode yB 9 = .ok (.iload_n 2, 1) := by decide +kernel
theorem d10 : decode yB 10 = .ok (.aload_n 0, 1) := by decide +kernel
theorem d11 : decode yB 11 = .ok (.arraylength, 1) := by decide +kernel
theorem d12 : decode yB 12 = .ok (.if_icmp (.ge) 20, 3) := by decide +kernel
theorem d15 : decode yB 15 = .ok (.aload_n 0, 1) := by decide +kernel
theorem d16 : decode yB 16 = .ok (.iload_n 2, 1) := by decide +kernel
theorem d17 : decode yB 17 = .ok (.baload, 1) := by decide +kernel
theorem d18 : decode yB 18 = .ok (.aload_n 1, 1) := by decide +kernel
theorem d19 : decode yB 19 = .ok (.iload_n 2, 1) := by decide +kernel
theorem d20 : decode yB 20 = .ok (.baload, 1) := by decide +kernel
theorem d21 : decode yB 21 = .ok (.if_icmp (.eq) 5, 3) := by decide +kernel
theorem d24 : decode yB 24 = .ok (.iconst 0, 1) := by decide +kernel
theorem d25 : decode yB 25 = .ok (.ireturn, 1) := by decide +kernel
theorem d26 : decode yB 26 = .ok (.iinc 2 1, 3) := by decide +kernel
theorem d29 : decode yB 29 = .ok (.goto (-20), 3) := by decide +kernel
theorem d32 : decode yB 32 = .ok (.iconst 1, 1) := by decide +kernel
theorem d33 : decode yB 33 = .ok (.ireturn, 1) := by decide +kernel
theorem d34 : decode yB 34 = .ok (.iconst 0, 1) := by decide +kernel
theorem d35 : decode yB 35 = .ok (.ireturn, 1) := by decide +kernel
def site : List Cond := []
def tab : Cond := tabOf yN yB 3 (some .boolean) site
def P (a : Addr) (A : Cell) (b : Addr) (B : Cell) (args : Array Value) (s : State) : Prop := args = #[.ref a, .ref b] ∧ XT.Arr .byte a A s ∧ Typed .byte A ∧ XT.Arr .byte b B s ∧ Typed .byte B
/-- whether two byte[] are equal, place for place -/
theorem law (l : Launch) (a : Addr) (A : Cell) (b : Addr) (B : Cell) : Law l yN 2 2 0 0 yB 3 (some .boolean) site (P a A b B) (Says01 (EqC A B)) [] 0 0 := by
  refine Law.of_walk (plainFor_of_name (by decide +kernel)) (by decide +kernel) (by decide +kernel) (by decide) (fun _ _ h => by rw [h.1]; rfl) (fun _ U U' hal hh h => ⟨h.1, h.2.1.mv hal hh, h.2.2.1, h.2.2.2.1.mv hal hh, h.2.2.2.2⟩) (fun r U U' V V' h1 hal h2 h => Says01.mv r U U' V V' h1 hal h2 h) ?_
  intro p e s m args below meth c s₁ X0 hexec hbytes hml hret hlk hnm hown hh0 W hP
  obtain ⟨rfl, hA, tA, hB, tB⟩ := hP
  have a31 := hA.2.2.2
  have b31 := hB.2.2.2
  have hA0 := hA.mv X0.warmed.alike hh0
  have hB0 := hB.mv X0.warmed.alike hh0
  have c1 : Steps p.tables e below (s₁.setTop (entryFrame m #[.ref a, .ref b] 3)) (s₁.setTop (mkF m 0 #[.val (.ref a), .val (.ref b), .unset] [])) := entry rfl
  have c2 : Steps p.tables e below (s₁.setTop (entryFrame m #[.ref a, .ref b] 3)) (s₁.setTop (mkF m 4 #[.val (.ref a), .val (.ref b), .unset] [.int (Int32.ofNat B.slots.size), .int (Int32.ofNat A.slots.size)])) := c1.trans (by
    refine XS.aloadN X0.here hexec rfl (hb hbytes d0) rfl rfl ?_
    refine X0.alen hexec hA0 rfl rfl (hb hbytes d1) ?_
    refine XS.aloadN X0.here hexec rfl (hb hbytes d2) rfl rfl ?_
    refine X0.alen hexec hB0 rfl rfl (hb hbytes d3) ?_
    exact Steps.refl _)
  by_cases hs : A.slots.size = B.slots.size
  · have c3 : Steps p.tables e below (s₁.setTop (entryFrame m #[.ref a, .ref b] 3)) (s₁.setTop (mkF m 9 #[.val (.ref a), .val (.ref b), .val (.int 0)] [])) := c2.trans (by
      refine XS.icmpNo X0.here hexec rfl (hb hbytes d4) rfl (ii_ne_f (by rw [hs])) ?_
      refine iconstV X0.here hexec rfl 0 (hb hbytes d7) (by decide) ?_
      refine XS.istoreN X0.here hexec rfl (hb hbytes d8) rfl rfl ?_
      exact Steps.refl _)
    have loop : ∀ (r i : Nat), i + r = A.slots.size → (∀ j, j < i → yv A j = yv B j) → Steps p.tables e below (s₁.setTop (entryFrame m #[.ref a, .ref b] 3)) (s₁.setTop (mkF m 9 #[.val (.ref a), .val (.ref b), .val (.int (Int32.ofNat i))] [])) → ∃ (pc : Nat) (Ls : Array Slot) (v : Int32), (pc = 25 ∨ pc = 33) ∧ ((v = 1 ∧ EqC A B) ∨ (v = 0 ∧ ¬ EqC A B)) ∧ Steps p.tables e below (s₁.setTop (entryFrame m #[.ref a, .ref b] 3)) (s₁.setTop (mkF m pc Ls [.int v])) := by
      intro r
      induction r with
      | zero =>
        intro i hi he cl
        exact ⟨33, _, 1, Or.inr rfl, Or.inl ⟨rfl, hs, fun j hj => he j (by omega)⟩, cl.trans (by
          refine XS.iloadN X0.here hexec rfl (hb hbytes d9) rfl ?_
          refine XS.aloadN X0.here hexec rfl (hb hbytes d10) rfl rfl ?_
          refine X0.alen hexec hA0 rfl rfl (hb hbytes d11) ?_
          refine XS.icmpYes X0.here hexec rfl (pc0 := 12) rfl (hb hbytes d12) rfl (ii_ge_t (nlt32 (by omega) (by omega))) (by decide) rfl ?_
          refine iconstV X0.here hexec rfl 1 (hb hbytes d32) (by decide) ?_
          exact Steps.refl _)⟩
      | succ r ih =>
        intro i hi he cl
        have c4 : Steps p.tables e below (s₁.setTop (entryFrame m #[.ref a, .ref b] 3)) (s₁.setTop (mkF m 21 #[.val (.ref a), .val (.ref b), .val (.int (Int32.ofNat i))] [.int (yv B i), .int (yv A i)])) := cl.trans (by
          refine XS.iloadN X0.here hexec rfl (hb hbytes d9) rfl ?_
          refine XS.aloadN X0.here hexec rfl (hb hbytes d10) rfl rfl ?_
          refine X0.alen hexec hA0 rfl rfl (hb hbytes d11) ?_
          refine XS.icmpNo X0.here hexec rfl (hb hbytes d12) rfl (ii_ge_f (lt32 (by omega) (by omega))) ?_
          refine XS.aloadN X0.here hexec rfl (hb hbytes d15) rfl rfl ?_
          refine XS.iloadN X0.here hexec rfl (hb hbytes d16) rfl ?_
          refine X0.aget hexec hA0 rfl (yv_get hA tA (i := i) (by omega)) rfl rfl (hb hbytes d17) ?_
          refine XS.aloadN X0.here hexec rfl (hb hbytes d18) rfl rfl ?_
          refine XS.iloadN X0.here hexec rfl (hb hbytes d19) rfl ?_
          refine X0.aget hexec hB0 rfl (yv_get hB tB (i := i) (by omega)) rfl rfl (hb hbytes d20) ?_
          exact Steps.refl _)
        by_cases hv : yv A i = yv B i
        · have c5 : Steps p.tables e below (s₁.setTop (entryFrame m #[.ref a, .ref b] 3)) (s₁.setTop (mkF m 9 #[.val (.ref a), .val (.ref b), .val (.int (Int32.ofNat i + 1))] [])) := c4.trans (by
            refine XS.icmpYes X0.here hexec rfl (pc0 := 21) rfl (hb hbytes d21) rfl (ii_eq_t hv) (by decide) rfl ?_
            refine iincV X0.here hexec rfl 1 (hb hbytes d26) (by decide) rfl rfl ?_
            refine XS.goto X0.here hexec rfl (pc0 := 29) rfl (hb hbytes d29) (by decide) rfl ?_
            exact Steps.refl _)
          rw [succ32] at c5
          exact ih (i + 1) (by omega) (fun j hj => by
            by_cases e : j = i
            · rw [e]; exact hv
            · exact he j (by omega)) c5
        · exact ⟨25, _, 0, Or.inl rfl, Or.inr ⟨rfl, fun q => hv (q.2 i (by omega))⟩, c4.trans (by
            refine XS.icmpNo X0.here hexec rfl (hb hbytes d21) rfl (ii_eq_f hv) ?_
            refine iconstV X0.here hexec rfl 0 (hb hbytes d24) (by decide) ?_
            exact Steps.refl _)⟩
    obtain ⟨pc, Ls, v, hpc, hv, cz⟩ := loop A.slots.size 0 (by omega) (fun j hj => absurd hj (Nat.not_lt_zero j)) c3
    have nv : narrow .boolean (.int v) = .int v := by rcases hv with ⟨rfl, -⟩ | ⟨rfl, -⟩ <;> rfl
    rcases hpc with rfl | rfl
    · exact ⟨s₁, some (.int v), _, _, _, X0, rfl, rfl, rfl, (fun h => by cases h), ⟨v, rfl, hh0, hv⟩, fun fs hl => cz.trans (X0.ireturnOut hexec hret nv (Or.inr (Or.inl rfl)) (hb hbytes d25) hl)⟩
    · exact ⟨s₁, some (.int v), _, _, _, X0, rfl, rfl, rfl, (fun h => by cases h), ⟨v, rfl, hh0, hv⟩, fun fs hl => cz.trans (X0.ireturnOut hexec hret nv (Or.inr (Or.inl rfl)) (hb hbytes d33) hl)⟩
  · have c3 : Steps p.tables e below (s₁.setTop (entryFrame m #[.ref a, .ref b] 3)) (s₁.setTop (mkF m 35 #[.val (.ref a), .val (.ref b), .unset] [.int 0])) := c2.trans (by
      refine XS.icmpYes X0.here hexec rfl (pc0 := 4) rfl (hb hbytes d4) rfl (ii_ne_t (ne32 a31 b31 hs)) (by decide) rfl ?_
      refine iconstV X0.here hexec rfl 0 (hb hbytes d34) (by decide) ?_
      exact Steps.refl _)
    exact ⟨s₁, some (.int 0), _, _, _, X0, rfl, rfl, rfl, (fun h => by cases h), ⟨0, rfl, hh0, Or.inr ⟨rfl, fun q => hs q.1⟩⟩, fun fs hl => c3.trans (X0.ireturnOut hexec hret rfl (Or.inr (Or.inl rfl)) (hb hbytes d35) hl)⟩
end LEq
theorem Cod.ty {cd : Int32} {n : Nat} {f : Nat → Int32} {V : Cell} (h : Cod cd n f V) : Typed .byte V := fun i v hv => by
  have hi : i < V.slots.size := (Array.getElem?_eq_some_iff.mp hv).1
  rcases h with ⟨-, k1, k2⟩ | ⟨-, k1, k2, -⟩
  · rw [(k2 i (by omega)).1] at hv; cases hv; exact fits_lo8 _
  · rcases Nat.mod_two_eq_zero_or_one i with e | e
    · obtain ⟨j, rfl⟩ : ∃ j, i = 2 * j := ⟨i / 2, by omega⟩
      rw [(k2 j (by omega)).1] at hv; cases hv; exact fits_lo8 _
    · obtain ⟨j, rfl⟩ : ∃ j, i = 2 * j + 1 := ⟨i / 2, by omega⟩
      rw [(k2 j (by omega)).2] at hv; cases hv; exact fits_lo8 _
/-- the same text -/
def SameT (n : Nat) (f : Nat → Int32) (k : Nat) (g : Nat → Int32) : Prop := n = k ∧ ∀ j, j < n → f j = g j
theorem lo8_inj {x y : Int32} (h0 : ¬ x < 0) (h1 : ¬ 255 < x) (k0 : ¬ y < 0) (k1 : ¬ 255 < y) (h : lo8 x = lo8 y) : x = y := by
  rw [← lo8_mask h0 h1, ← lo8_mask k0 k1, h]
/-- arrays coded by one coder are equal just where the texts are -/
theorem Cod.eqv {cd : Int32} {n k : Nat} {f g : Nat → Int32} {V V' : Cell} (h : Cod cd n f V) (h' : Cod cd k g V') (hf : ∀ j, j < n → ¬ f j < 0 ∧ ¬ 65535 < f j) (hg : ∀ j, j < k → ¬ g j < 0 ∧ ¬ 65535 < g j) : EqC V V' ↔ SameT n f k g := by
  have yvv : ∀ {W : Cell} {i : Nat} {x : Int32}, W.slots[i]? = some (.int x) → yv W i = x := fun q => by unfold yv; rw [q]
  rcases h with ⟨rfl, k1, k2⟩ | ⟨rfl, k1, k2, -⟩
  · rcases h' with ⟨-, m1, m2⟩ | ⟨e, -⟩
    · constructor
      · rintro ⟨e1, e2⟩
        refine ⟨by omega, fun j hj => ?_⟩
        have q := e2 j (by omega)
        rw [yvv (k2 j hj).1, yvv (m2 j (by omega)).1] at q
        exact lo8_inj (hf j hj).1 (k2 j hj).2 (hg j (by omega)).1 (m2 j (by omega)).2 q
      · rintro ⟨rfl, e2⟩
        refine ⟨by omega, fun j hj => ?_⟩
        rw [yvv (k2 j (by omega)).1, yvv (m2 j (by omega)).1, e2 j (by omega)]
    · exact absurd e (by decide)
  · rcases h' with ⟨e, -⟩ | ⟨-, m1, m2, -⟩
    · exact absurd e (by decide)
    · constructor
      · rintro ⟨e1, e2⟩
        refine ⟨by omega, fun j hj => ?_⟩
        have q1 := e2 (2 * j) (by omega)
        have q2 := e2 (2 * j + 1) (by omega)
        rw [yvv (k2 j hj).1, yvv (m2 j (by omega)).1] at q1
        rw [yvv (k2 j hj).2, yvv (m2 j (by omega)).2] at q2
        rw [← pair_says (hf j hj).1 (hf j hj).2, ← pair_says (hg j (by omega)).1 (hg j (by omega)).2, q1, q2]
      · rintro ⟨rfl, e2⟩
        refine ⟨by omega, fun i hi => ?_⟩
        rcases Nat.mod_two_eq_zero_or_one i with e | e
        · obtain ⟨j, rfl⟩ : ∃ j, i = 2 * j := ⟨i / 2, by omega⟩
          rw [yvv (k2 j (by omega)).1, yvv (m2 j (by omega)).1, e2 j (by omega)]
        · obtain ⟨j, rfl⟩ : ∃ j, i = 2 * j + 1 := ⟨i / 2, by omega⟩
          rw [yvv (k2 j (by omega)).2, yvv (m2 j (by omega)).2, e2 j (by omega)]
/-- two codings differ: so do the texts -/
theorem Cod.dif {cd cd' : Int32} {n k : Nat} {f g : Nat → Int32} {V V' : Cell} (h : Cod cd n f V) (h' : Cod cd' k g V') (hne : ¬ cd = cd') : ¬ SameT n f k g := by
  rintro ⟨rfl, e⟩
  rcases h with ⟨rfl, -, k2⟩ | ⟨rfl, -, -, j, hj, hw⟩
  · rcases h' with ⟨rfl, -⟩ | ⟨-, -, -, j, hj, hw⟩
    · exact hne rfl
    · exact (k2 j hj).2 (by rw [e j hj]; exact hw)
  · rcases h' with ⟨-, -, m2⟩ | ⟨rfl, -⟩
    · exact (m2 j hj).2 (by rw [← e j hj]; exact hw)
    · exact hne rfl
/-- an object of exactly C is an instance of C -/
theorem cinst {p : Program} {l : Launch} {e : Env} {R : Room} {s : State} {m : MethodId} {args : Array Value} {below : List Frame} {meth : Method} {c : Code} {T : State} {locs : List Loc} {cells slots : Nat} (X : Stand p l e R s m args below meth c T locs cells slots) (hexec : p.tables.exec = Jvm.exec) {own C : String} {index : Nat} (hown : s.vm.findClass own = some m.cls) (hlink : (Cond.classLink own index C).before args s = true) {a : Addr} (hE : Exact C a T)
    {g : JFrame} (hg : g.method = m) {rest : List Value} (hstack : g.stack = .ref a :: rest) (hdg : decode c.code g.pc = .ok (.instanceof index, 3)) :
    ∃ T', Stand p l e R s m args below meth c T' locs cells slots ∧ T'.heap = T.heap ∧ ∀ target, Steps p.tables e below (T'.setTop { g with pc := g.pc + 3, stack := .int 1 :: rest }) target → Steps p.tables e below (T.setTop g) target := by
  obtain ⟨cB, h1, D, h2, h3, h4⟩ := hE
  have h1' : s.vm.findClass C = some cB := by rw [← X.warmed.alike.findClass]; exact h1
  obtain ⟨vm', X', st⟩ := X.instanceofYes hexec hown hlink h2 h4 h1' (by rw [h3]; exact Jvm.Free.SB.assignable_self _ _) hg hstack hdg
  exact ⟨_, X', rfl, st⟩
theorem cself {p : Program} {l : Launch} {e : Env} {R : Room} {s : State} {m : MethodId} {args : Array Value} {below : List Frame} {meth : Method} {c : Code} {T : State} {locs : List Loc} {cells slots : Nat} (X : Stand p l e R s m args below meth c T locs cells slots) (hexec : p.tables.exec = Jvm.exec) {own C : String} {index : Nat} (hown : s.vm.findClass own = some m.cls) (hlink : (Cond.classLink own index C).before args s = true) {a : Addr} (hE : Exact C a T)
    {g : JFrame} (hg : g.method = m) {rest : List Value} (hstack : g.stack = .ref a :: rest) (hdg : decode c.code g.pc = .ok (.checkcast index, 3)) :
    ∃ T', Stand p l e R s m args below meth c T' locs cells slots ∧ T'.heap = T.heap ∧ ∀ target, Steps p.tables e below (T'.setTop { g with pc := g.pc + 3, stack := .ref a :: rest }) target → Steps p.tables e below (T.setTop g) target := by
  obtain ⟨cB, h1, D, h2, h3, h4⟩ := hE
  have h1' : s.vm.findClass C = some cB := by rw [← X.warmed.alike.findClass]; exact h1
  obtain ⟨vm', X', st⟩ := X.checkcastYes hexec hown hlink h2 h4 h1' (by rw [h3]; exact Jvm.Free.SB.assignable_self _ _) hg hstack hdg
  exact ⟨_, X', rfl, fun t h => st t (by rw [← hstack] at h; exact h)⟩
namespace SEq
def yN : MethodName := ⟨"java/lang/String", "equals", "(Ljava/lang/Object;)Z"⟩
abbrev yB : ByteArray := jdk_42_method_66_code
theorem d0 : decode yB 0 = .ok (.aload_n 0, 1) := by decide +kernel
theorem d1 : decode yB 1 = .ok (.aload_n 1, 1) := by decide +kernel
theorem d2 : decode yB 2 = .ok (.if_acmp (.ne) 5, 3) := by decide +kernel
theorem d5 : decode yB 5 = .ok (.iconst 1, 1) := by decide +kernel
theorem d6 : decode yB 6 = .ok (.ireturn, 1) := by decide +kernel
theorem d7 : decode yB 7 = .ok (.aload_n 1, 1) := by decide +kernel
theorem d8 : decode yB 8 = .ok (.instanceof 10, 3) := by decide +kernel
theorem d11 : decode yB 11 = .ok (.ifCond (.eq) 43, 3) := by decide +kernel
theorem d14 : decode yB 14 = .ok (.aload_n 1, 1) := by decide +kernel
theorem d15 : decode yB 15 = .ok (.checkcast 10, 3) := by decide +kernel
theorem d18 : decode yB 18 = .ok (.astore_n 2, 1) := by decide +kernel
theorem d19 : decode yB 19 = .ok (.getstatic 38, 3) := by decide +kernel
theorem d22 : decode yB 22 = .ok (.ifCond (.eq) 14, 3) := by decide +kernel
theorem d25 : decode yB 25 = .ok (.aload_n 0, 1) := by decide +kernel
theorem d26 : decode yB 26 = .ok (.getfield 15, 3) := by decide +kernel
theorem d29 : decode yB 29 = .ok (.aload_n 2, 1) := by decide +kernel
theorem d30 : decode yB 30 = .ok (.getfield 15, 3) := by decide +kernel
theorem d33 : decode yB 33 = .ok (.if_icmp (.ne) 21, 3) := by decide +kernel
theorem d36 : decode yB 36 = .ok (.aload_n 0, 1) := by decide +kernel
theorem d37 : decode yB 37 = .ok (.getfield 9, 3) := by decide +kernel
theorem d40 : decode yB 40 = .ok (.aload_n 2, 1) := by decide +kernel
theorem d41 : decode yB 41 = .ok (.getfield 9, 3) := by decide +kernel
theorem d44 : decode yB 44 = .ok (.invokestatic 541, 3) := by decide +kernel
theorem d47 : decode yB 47 = .ok (.ifCond (.eq) 7, 3) := by decide +kernel
theorem d50 : decode yB 50 = .ok (.iconst 1, 1) := by decide +kernel
theorem d51 : decode yB 51 = .ok (.goto 4, 3) := by decide +kernel
theorem d54 : decode yB 54 = .ok (.iconst 0, 1) := by decide +kernel
theorem d55 : decode yB 55 = .ok (.ireturn, 1) := by decide +kernel
def site : List Cond := [.classLink "java/lang/String" 10 "java/lang/String", .fieldLink "java/lang/String" 38 "java/lang/String" "COMPACT_STRINGS" "Z", .fieldLink "java/lang/String" 15 "java/lang/String" "coder" "B", .fieldLink "java/lang/String" 9 "java/lang/String" "value" "[B", LEq.tab] ++ staticW "java/lang/String" 541 LEq.yN
def tab : Cond := tabOf yN yB 3 (some .boolean) site
def P (x t : Addr) (V : Cell) (cd : Int32) (n : Nat) (f : Nat → Int32) (y t' : Addr) (V' : Cell) (cd' : Int32) (k : Nat) (g : Nat → Int32) (z : Int32) (args : Array Value) (s : State) : Prop := args = #[.ref x, .ref y] ∧ Txt x t V cd n f s ∧ Txt y t' V' cd' k g s ∧ StaticIs s "java/lang/String" "COMPACT_STRINGS" "Z" (.int z) ∧ ¬ z = 0
/-- equals(Object) of two Strings: whether the texts are the same -/
theorem law (l : Launch) (x t : Addr) (V : Cell) (cd : Int32) (n : Nat) (f : Nat → Int32) (y t' : Addr) (V' : Cell) (cd' : Int32) (k : Nat) (g : Nat → Int32) (z : Int32) : Law l yN 2 1 1 14 yB 3 (some .boolean) site (P x t V cd n f y t' V' cd' k g z) (Says01 (SameT n f k g)) [] 0 0 := by
  refine Law.of_walk (plainFor_of_name (by decide +kernel)) (by decide +kernel) (by decide +kernel) (by decide) (fun _ _ h => by rw [h.1]; rfl) (fun _ U U' hal hh h => ⟨h.1, h.2.1.mv hal hh, h.2.2.1.mv hal hh, h.2.2.2.1.there hal hh, h.2.2.2.2⟩) (fun r U U' V V' h1 hal h2 h => Says01.mv r U U' V V' h1 hal h2 h) ?_
  intro p e s m args below meth c s₁ X0 hexec hbytes hml hret hlk hnm hown hh0 W hP
  obtain ⟨rfl, hx, hy, s1, hz⟩ := hP
  have c1 : Steps p.tables e below (s₁.setTop (entryFrame m #[.ref x, .ref y] 3)) (s₁.setTop (mkF m 2 #[.val (.ref x), .val (.ref y), .unset] [.ref y, .ref x])) := Steps.trans (entry rfl) (by
    show Steps p.tables e below (s₁.setTop (mkF m 0 #[.val (.ref x), .val (.ref y), .unset] [])) _
    refine XS.aloadN X0.here hexec rfl (hb hbytes d0) rfl rfl ?_
    refine XS.aloadN X0.here hexec rfl (hb hbytes d1) rfl rfl ?_
    exact Steps.refl _)
  by_cases hxy : x = y
  · have c2 : Steps p.tables e below (s₁.setTop (entryFrame m #[.ref x, .ref y] 3)) (s₁.setTop (mkF m 6 #[.val (.ref x), .val (.ref y), .unset] [.int 1])) := c1.trans (by
      refine acmpNo X0.here hexec rfl (hb hbytes d2) rfl rfl rfl (by simp [acmp, hxy]) ?_
      refine iconstV X0.here hexec rfl 1 (hb hbytes d5) (by decide) ?_
      exact Steps.refl _)
    subst hxy
    have ec : cd = cd' := by
      obtain ⟨D, fd, a1, a2, a3⟩ := hx.2.2.1
      obtain ⟨D', fd', b1, b2, b3⟩ := hy.2.2.1
      cases a1.symm.trans b1
      obtain ⟨q1, q2, q3, q4⟩ := a2.1
      obtain ⟨r1, r2, r3, r4⟩ := b2.1
      cases q4.symm.trans r4
      cases a3.symm.trans b3; rfl
    have et : t = t' := by
      obtain ⟨D, fd, a1, a2, a3⟩ := hx.2.1
      obtain ⟨D', fd', b1, b2, b3⟩ := hy.2.1
      cases a1.symm.trans b1
      obtain ⟨q1, q2, q3, q4⟩ := a2.1
      obtain ⟨r1, r2, r3, r4⟩ := b2.1
      cases q4.symm.trans r4
      cases a3.symm.trans b3; rfl
    subst ec et
    have ev : V = V' := by cases hx.2.2.2.1.1.symm.trans hy.2.2.2.1.1; rfl
    subst ev
    have hs : SameT n f k g := (Cod.eqv hx.2.2.2.2.1 hy.2.2.2.2.1 hx.2.2.2.2.2 hy.2.2.2.2.2).mp ⟨rfl, fun _ _ => rfl⟩
    exact ⟨s₁, some (.int 1), _, _, _, X0, rfl, rfl, rfl, (fun h => by cases h), ⟨1, rfl, hh0, Or.inl ⟨rfl, hs⟩⟩, fun fs hl => c2.trans (X0.ireturnOut hexec hret rfl (Or.inr (Or.inl rfl)) (hb hbytes d6) hl)⟩
  · have c2 : Steps p.tables e below (s₁.setTop (entryFrame m #[.ref x, .ref y] 3)) (s₁.setTop (mkF m 8 #[.val (.ref x), .val (.ref y), .unset] [.ref y])) := c1.trans (by
      refine acmpYes X0.here hexec rfl (pc0 := 2) rfl (hb hbytes d2) rfl rfl rfl (by simp [acmp, hxy]) (by decide) rfl ?_
      refine XS.aloadN X0.here hexec rfl (hb hbytes d7) rfl rfl ?_
      exact Steps.refl _)
    obtain ⟨T3, X3, q3, st3⟩ := cinst X0 hexec hown (wk W (.classLink "java/lang/String" 10 "java/lang/String")) (hy.mv X0.warmed.alike hh0).1 (g := (mkF m 8 #[.val (.ref x), .val (.ref y), .unset] [.ref y])) rfl (rest := []) rfl (hb hbytes d8)
    have hh3 := q3.trans hh0
    have c4 : Steps p.tables e below (s₁.setTop (entryFrame m #[.ref x, .ref y] 3)) (T3.setTop (mkF m 15 #[.val (.ref x), .val (.ref y), .unset] [.ref y])) := (c2.trans (st3 _ (Steps.refl _))).trans (by
      refine XS.ifNo X3.here hexec rfl (hb hbytes d11) rfl (i0_eq_f (by decide)) ?_
      refine XS.aloadN X3.here hexec rfl (hb hbytes d14) rfl rfl ?_
      exact Steps.refl _)
    obtain ⟨T5, X5, q5, st5⟩ := cself X3 hexec hown (wk W (.classLink "java/lang/String" 10 "java/lang/String")) (hy.mv X3.warmed.alike hh3).1 (g := (mkF m 15 #[.val (.ref x), .val (.ref y), .unset] [.ref y])) rfl (rest := []) rfl (hb hbytes d15)
    have hh5 := q5.trans hh3
    have c6 : Steps p.tables e below (s₁.setTop (entryFrame m #[.ref x, .ref y] 3)) (T5.setTop (mkF m 19 #[.val (.ref x), .val (.ref y), .val (.ref y)] [])) := (c4.trans (st5 _ (Steps.refl _))).trans (by
      refine XS.astoreN X5.here hexec rfl (hb hbytes d18) rfl rfl rfl ?_
      exact Steps.refl _)
    obtain ⟨T7, X7, q7, st7⟩ := X5.sget hexec hown (wk W (.fieldLink "java/lang/String" 38 "java/lang/String" "COMPACT_STRINGS" "Z")) s1 (fun _ _ h => by rw [hh5]; exact h) (g := (mkF m 19 #[.val (.ref x), .val (.ref y), .val (.ref y)] [])) rfl (hb hbytes d19)
    have hh7 := q7.trans hh5
    have c8 : Steps p.tables e below (s₁.setTop (entryFrame m #[.ref x, .ref y] 3)) (T7.setTop (mkF m 26 #[.val (.ref x), .val (.ref y), .val (.ref y)] [.ref x])) := (c6.trans (st7 _ (Steps.refl _))).trans (by
      refine XS.ifNo X7.here hexec rfl (hb hbytes d22) rfl (i0_eq_f hz) ?_
      refine XS.aloadN X7.here hexec rfl (hb hbytes d25) rfl rfl ?_
      exact Steps.refl _)
    obtain ⟨T9, X9, q9, st9⟩ := X7.hget hexec hown (wk W (.fieldLink "java/lang/String" 15 "java/lang/String" "coder" "B")) (hx.mv X7.warmed.alike hh7).2.2.1 (g := (mkF m 26 #[.val (.ref x), .val (.ref y), .val (.ref y)] [.ref x])) rfl (rest := []) rfl (hb hbytes d26)
    have hh9 := q9.trans hh7
    have c10 : Steps p.tables e below (s₁.setTop (entryFrame m #[.ref x, .ref y] 3)) (T9.setTop (mkF m 30 #[.val (.ref x), .val (.ref y), .val (.ref y)] [.ref y, .int cd])) := (c8.trans (st9 _ (Steps.refl _))).trans (by
      refine XS.aloadN X9.here hexec rfl (hb hbytes d29) rfl rfl ?_
      exact Steps.refl _)
    obtain ⟨T11, X11, q11, st11⟩ := X9.hget hexec hown (wk W (.fieldLink "java/lang/String" 15 "java/lang/String" "coder" "B")) (hy.mv X9.warmed.alike hh9).2.2.1 (g := (mkF m 30 #[.val (.ref x), .val (.ref y), .val (.ref y)] [.ref y, .int cd])) rfl (rest := [.int cd]) rfl (hb hbytes d30)
    have hh11 := q11.trans hh9
    have c12 : Steps p.tables e below (s₁.setTop (entryFrame m #[.ref x, .ref y] 3)) (T11.setTop (mkF m 33 #[.val (.ref x), .val (.ref y), .val (.ref y)] [.int cd', .int cd])) := c10.trans (st11 _ (Steps.refl _))
    by_cases hcd : cd = cd'
    · subst hcd
      have c13 : Steps p.tables e below (s₁.setTop (entryFrame m #[.ref x, .ref y] 3)) (T11.setTop (mkF m 37 #[.val (.ref x), .val (.ref y), .val (.ref y)] [.ref x])) := c12.trans (by
        refine XS.icmpNo X11.here hexec rfl (hb hbytes d33) rfl (ii_ne_f rfl) ?_
        refine XS.aloadN X11.here hexec rfl (hb hbytes d36) rfl rfl ?_
        exact Steps.refl _)
      obtain ⟨T14, X14, q14, st14⟩ := X11.hget hexec hown (wk W (.fieldLink "java/lang/String" 9 "java/lang/String" "value" "[B")) (hx.mv X11.warmed.alike hh11).2.1 (g := (mkF m 37 #[.val (.ref x), .val (.ref y), .val (.ref y)] [.ref x])) rfl (rest := []) rfl (hb hbytes d37)
      have hh14 := q14.trans hh11
      have c15 : Steps p.tables e below (s₁.setTop (entryFrame m #[.ref x, .ref y] 3)) (T14.setTop (mkF m 41 #[.val (.ref x), .val (.ref y), .val (.ref y)] [.ref y, .ref t])) := (c13.trans (st14 _ (Steps.refl _))).trans (by
        refine XS.aloadN X14.here hexec rfl (hb hbytes d40) rfl rfl ?_
        exact Steps.refl _)
      obtain ⟨T16, X16, q16, st16⟩ := X14.hget hexec hown (wk W (.fieldLink "java/lang/String" 9 "java/lang/String" "value" "[B")) (hy.mv X14.warmed.alike hh14).2.1 (g := (mkF m 41 #[.val (.ref x), .val (.ref y), .val (.ref y)] [.ref y, .ref t])) rfl (rest := [.ref t]) rfl (hb hbytes d41)
      have hh16 := q16.trans hh14
      have c17 : Steps p.tables e below (s₁.setTop (entryFrame m #[.ref x, .ref y] 3)) (T16.setTop (mkF m 44 #[.val (.ref x), .val (.ref y), .val (.ref y)] [.ref t', .ref t])) := c15.trans (st16 _ (Steps.refl _))
      obtain ⟨v18, T18, X18, E18, g18⟩ := X16.callS hexec (LEq.law l t V t' V') hown (wks W (staticW "java/lang/String" 541 LEq.yN)) (wk W LEq.tab) (W := 0) (Nat.le_of_ble_eq_true rfl) (Nat.le_of_ble_eq_true rfl) (Nat.le_refl _) (Nat.le_refl _) (g := (mkF m 44 #[.val (.ref x), .val (.ref y), .val (.ref y)] [.ref t', .ref t])) rfl (by rw [hml]; rfl) c17 (argsL := [.ref t, .ref t']) (rest := []) rfl rfl (by show 2 * 0 + 0 ≤ _; decide) (hb hbytes d44) (⟨rfl, hx.2.2.2.1.mv X16.warmed.alike hh16, hx.2.2.2.2.1.ty, hy.2.2.2.1.mv X16.warmed.alike hh16, hy.2.2.2.2.1.ty⟩)
      obtain ⟨v, rfl, q18, hv⟩ := E18
      have iff := Cod.eqv hx.2.2.2.2.1 hy.2.2.2.2.1 hx.2.2.2.2.2 hy.2.2.2.2.2
      rcases hv with ⟨rfl, he⟩ | ⟨rfl, he⟩
      · have c19 : Steps p.tables e below (s₁.setTop (entryFrame m #[.ref x, .ref y] 3)) (T18.setTop (mkF m 55 #[.val (.ref x), .val (.ref y), .val (.ref y)] [.int 1])) := Steps.trans g18 (by
          refine XS.ifNo X18.here hexec rfl (hb hbytes d47) rfl (i0_eq_f (by decide)) ?_
          refine iconstV X18.here hexec rfl 1 (hb hbytes d50) (by decide) ?_
          refine XS.goto X18.here hexec rfl (pc0 := 51) rfl (hb hbytes d51) (by decide) rfl ?_
          exact Steps.refl _)
        exact ⟨T18, some (.int 1), _, _, _, X18, rfl, rfl, rfl, (fun h => by cases h), ⟨1, rfl, q18.trans hh16, Or.inl ⟨rfl, iff.mp he⟩⟩, fun fs hl => c19.trans (X18.ireturnOut hexec hret rfl (Or.inr (Or.inl rfl)) (hb hbytes d55) hl)⟩
      · have c19 : Steps p.tables e below (s₁.setTop (entryFrame m #[.ref x, .ref y] 3)) (T18.setTop (mkF m 55 #[.val (.ref x), .val (.ref y), .val (.ref y)] [.int 0])) := Steps.trans g18 (by
          refine XS.ifYes X18.here hexec rfl (pc0 := 47) rfl (hb hbytes d47) rfl (i0_eq_t rfl) (by decide) rfl ?_
          refine iconstV X18.here hexec rfl 0 (hb hbytes d54) (by decide) ?_
          exact Steps.refl _)
        exact ⟨T18, some (.int 0), _, _, _, X18, rfl, rfl, rfl, (fun h => by cases h), ⟨0, rfl, q18.trans hh16, Or.inr ⟨rfl, fun q => he (iff.mpr q)⟩⟩, fun fs hl => c19.trans (X18.ireturnOut hexec hret rfl (Or.inr (Or.inl rfl)) (hb hbytes d55) hl)⟩
    · have c13 : Steps p.tables e below (s₁.setTop (entryFrame m #[.ref x, .ref y] 3)) (T11.setTop (mkF m 55 #[.val (.ref x), .val (.ref y), .val (.ref y)] [.int 0])) := c12.trans (by
        refine XS.icmpYes X11.here hexec rfl (pc0 := 33) rfl (hb hbytes d33) rfl (ii_ne_t hcd) (by decide) rfl ?_
        refine iconstV X11.here hexec rfl 0 (hb hbytes d54) (by decide) ?_
        exact Steps.refl _)
      exact ⟨T11, some (.int 0), _, _, _, X11, rfl, rfl, rfl, (fun h => by cases h), ⟨0, rfl, hh11, Or.inr ⟨rfl, Cod.dif hx.2.2.2.2.1 hy.2.2.2.2.1 hcd⟩⟩, fun fs hl => c13.trans (X11.ireturnOut hexec hret rfl (Or.inr (Or.inl rfl)) (hb hbytes d55) hl)⟩
theorem pays {l : Launch} {R : Room} {p : Program} {e : Env} {below : List Frame} {s : State} {sargs : Array Value} {len W : Nat} (x t : Addr) (V : Cell) (cd : Int32) (n : Nat) (f : Nat → Int32) (y t' : Addr) (V' : Cell) (cd' : Int32) (k : Nat) (g : Nat → Int32) (z : Int32) (htab : tab.before sargs s = true) (hfr : 2 ≤ R.frames) (hlo : W + 28 ≤ R.locals) :
    Back l R p e below s sargs yN len W (fun A₁ a₁ => A₁.cells + 0 ≤ R.cells ∧ A₁.slots + 0 ≤ R.slots ∧ P x t V cd n f y t' V' cd' k g z a₁ A₁.U) (fun A₁ _ v₁ B₁ => Says01 (SameT n f k g) v₁ A₁.U B₁.U ∧ B₁.locs = A₁.locs ++ [] ∧ B₁.cells = A₁.cells + 0 ∧ B₁.slots = A₁.slots + 0) :=
  (law l x t V cd n f y t' V' cd' k g z).pays htab hfr (by omega)
end SEq
end StrChars
namespace StrChars.Road
open Jvm Sem ClassFile Op Lib Jvm.Stand Jvm.Free Jvm.Free.XT
open Jvm.Lib.Cold (StaticIs)
/-- the words of String.equals(Object) -/
abbrev wordsEq : List Jvm.Cond := [.code SEq.yN SEq.yB 3 (some .boolean), .initialized ST, .classLink ST 10 ST, .fieldLink ST 38 ST "COMPACT_STRINGS" "Z", .fieldLink ST 15 ST "coder" "B", .fieldLink ST 9 ST "value" "[B", .methodLink ST 541 LEq.yN, .static LEq.yN, .code LEq.yN LEq.yB 3 (some .boolean), .initialized "java/lang/StringLatin1"]
theorem tabEq_of {a : Array Value} {s : State} (h : ∀ w ∈ wordsEq, w.before a s = true) : SEq.tab.before a s = true := by
  have hl : LEq.tab.before a s = true := unparts (wk h (.code LEq.yN LEq.yB 3 (some .boolean))) (wks h (.initialized LEq.yN.cls :: LEq.site))
  have q := consq hl h
  exact unparts (wk q (.code SEq.yN SEq.yB 3 (some .boolean))) (wks q (.initialized SEq.yN.cls :: SEq.site))
theorem movedEq {Z s : State} {a0 args : Array Value} (hZ : Z.Warmed39 s.vm) (hw : ∀ d ∈ wordsEq, d.before a0 Z = true) : ∀ d ∈ wordsEq, d.before args s = true := fun d hd => by
  have t : ∀ d ∈ wordsEq, (d.onTables && d.keepsFace) = true := by decide +kernel
  exact RoadKit.mv hZ (hw d hd) (t d hd)
/-- the road's facts of a String, as the laws ask it -/
theorem txt_of {Z U : State} {a0 : Array Value} {kI : Nat} (wi : (Jvm.Cond.instantiable ST kI).before a0 Z = true) (al : Z.vm.Alike U.vm) {x t : Addr} {kb : ClassId} {cs : List Int32} {cd N2 : Int32} {vs : List Value} (E : RoadKit.Exa Z U.heap x ST) (V : RoadKit.Fld Z U.heap x ST "value" "[B" (.ref t)) (C : RoadKit.Fld Z U.heap x ST "coder" "B" (.int cd)) (K : RoadKit.Arv Z U.heap t kb .byte N2 vs (.int 0)) (hc : CodA cs cd N2 vs) (hb : ∀ c ∈ cs, ¬ c < 0 ∧ ¬ (65535 : Int32) < c) (l2 : cs.length ≤ 4000) :
    ∃ A, Txt x t A cd cs.length (fun j => cs.getD j 0) U := by
  obtain ⟨A, K1, K2, K3, K4, K5, K6⟩ := K
  have hcod := hc.cod (by omega) K3 K5
  obtain ⟨D, fV, fC, hB, F1, F2, g1, g2, -, -⟩ := strObj wi al E V C
  exact ⟨A, ⟨_, hB.2.2.1, D, hB.1, rfl, by cases q : D.vm <;> first | rfl | exact absurd q (hB.2.1.2 _)⟩, Has.of hB F1 g1, Has.of hB F2 g2, ⟨K1.1, State.isArrayOf_alike al K1.2.1, K1.2.2, by rcases hcod with ⟨-, q, -⟩ | ⟨-, q, -⟩ <;> omega⟩, hcod, fun j hj => by
    have e : cs.getD j 0 = cs[j] := by simp [List.getD_eq_getElem?_getD, hj]
    show ¬ cs.getD j 0 < 0 ∧ ¬ 65535 < cs.getD j 0
    rw [e]; exact hb _ (List.getElem_mem _)⟩
theorem same_list (cs ds : List Int32) : SameT cs.length (fun j => cs.getD j 0) ds.length (fun j => ds.getD j 0) ↔ cs = ds := by
  constructor
  · rintro ⟨e, q⟩
    refine List.ext_getElem e fun j h1 h2 => ?_
    have := q j h1
    simpa [List.getD_eq_getElem?_getD, h1, h2] using this
  · rintro rfl
    exact ⟨rfl, fun _ _ => rfl⟩
/-- **equals(Object) OF TWO SUCH STRINGS**: 1 just where the chars are the same -/
theorem eqW {p : Program} {l : Launch} {e : Env} {R : Room} {s : State} {args : Array Value} {below : List Frame} {len W : Nat} {Z : State} {a0 : Array Value} {h : Heap} (hZ : Z.Warmed39 s.vm) (hw : ∀ d ∈ wordsEq, d.before a0 Z = true) {kI : Nat} (wi : (Jvm.Cond.instantiable ST kI).before a0 Z = true)
    {x t : Addr} {kb : ClassId} {cs : List Int32} {cd N2 : Int32} {vs : List Value} (E : RoadKit.Exa Z h x ST) (V : RoadKit.Fld Z h x ST "value" "[B" (.ref t)) (C : RoadKit.Fld Z h x ST "coder" "B" (.int cd)) (K : RoadKit.Arv Z h t kb .byte N2 vs (.int 0)) (hc : CodA cs cd N2 vs) (hb : ∀ c ∈ cs, ¬ c < 0 ∧ ¬ (65535 : Int32) < c) (l2 : cs.length ≤ 4000)
    {y t' : Addr} {kb' : ClassId} {ds : List Int32} {cd' N2' : Int32} {vs' : List Value} (E' : RoadKit.Exa Z h y ST) (V' : RoadKit.Fld Z h y ST "value" "[B" (.ref t')) (C' : RoadKit.Fld Z h y ST "coder" "B" (.int cd')) (K' : RoadKit.Arv Z h t' kb' .byte N2' vs' (.int 0)) (hc' : CodA ds cd' N2' vs') (hb' : ∀ c ∈ ds, ¬ c < 0 ∧ ¬ (65535 : Int32) < c) (l2' : ds.length ≤ 4000)
    {z : Int32} (S : RoadKit.Sta Z h ST "COMPACT_STRINGS" "Z" (.int z)) (hz : ¬ z = 0) (hfr : 2 ≤ R.frames) (hlo : W + 28 ≤ R.locals) :
    Back l R p e below s args (⟨"java/lang/String", "equals", "(Ljava/lang/Object;)Z"⟩ : MethodName) len W (fun P a => a = #[.ref x, .ref y] ∧ P.U.heap = h ∧ P.cells + 0 ≤ R.cells ∧ P.slots + 0 ≤ R.slots)
      (fun P _ v B => ∃ L, (((v = some (.int 1) ∧ cs = ds) ∨ (v = some (.int 0) ∧ ¬ cs = ds)) ∧ L = [] ∧ B.U.heap = h) ∧ B.locs = P.locs ++ L ∧ B.cells = P.cells + 0 ∧ B.slots = P.slots + 0) := by
  intro m meth c P g ig mk a X hg hsize hdg hW hn hp'
  obtain ⟨rfl, rfl, r1, r2⟩ := hp'
  have al : Z.vm.Alike P.U.vm := hZ.alike.trans X.warmed.alike
  obtain ⟨A, hx⟩ := txt_of wi al E V C K hc hb l2
  obtain ⟨A', hy⟩ := txt_of wi al E' V' C' K' hc' hb' l2'
  obtain ⟨v, B, X', ⟨⟨w, hv, hh, hq⟩, hl, hk, hs⟩, st⟩ := SEq.pays x t A cd cs.length (fun j => cs.getD j 0) y t' A' cd' ds.length (fun j => ds.getD j 0) z (tabEq_of (movedEq hZ hw)) hfr hlo m meth c P g ig mk _ X hg hsize hdg hW hn ⟨r1, r2, rfl, hx, hy, sta_is al S, hz⟩
  refine ⟨v, B, X', ⟨[], ⟨?_, rfl, hh⟩, hl, hk, hs⟩, st⟩
  rcases hq with ⟨rfl, q⟩ | ⟨rfl, q⟩
  · exact Or.inl ⟨hv, (same_list cs ds).mp q⟩
  · exact Or.inr ⟨hv, fun e => q ((same_list cs ds).mpr e)⟩
end StrChars.Road
namespace StrChars.Road
open Jvm Sem ClassFile Op Lib Jvm.Stand Jvm.Free Jvm.Free.XT
open Jvm.Lib.Cold (StaticIs)
/-- what backV says of its String, as the contracts of this text ask it: cs's low bytes, coder 0 -/
theorem codOf {cs : List Int32} {n : Nat} (hn : cs.length = n) (hb : ∀ c ∈ cs, ¬ 255 < c) : CodA cs 0 (Int32.ofNat n) ((cs.map lo8).map Value.int) := Or.inl ⟨rfl, by rw [hn], by simp [List.map_map, Function.comp_def], hb⟩
end StrChars.Road
end Jvm.Pilot.@@N@@

namespace Jvm.Pilot.@@N@@
open Jvm Jvm.ClassFile Sem Op Lib Jvm.Free Jvm.Stand Jvm.LawKit Jvm.RoadKit Bundle Jvm.Pilot.@@N@@.Jvm.D
theorem own_eqint {args : Array Value} {first s : State} {o : Option Outcome} {idx : List Nat} {t : Term} {k : Int32} (h : (Jvm.Cond.eq t (.int k)).value args first o s idx = some true) : t.eval args first o idx s = some (.int k) := by
  obtain ⟨x, y, hx, hy, hk, hk'⟩ := cmp_v (Or.inl h)
  have ey : y = .int k := (Option.some.inj ((Term.int_eval k).symm.trans hy)).symm
  subst ey
  obtain ⟨z, rfl⟩ := hk'
  have hv : (Jvm.Cond.eq t (.int k)).value args first o s idx = some (decide (z = k)) := by simp [Cond.value, hx, hy]
  have := gotT hv h
  rw [hx, this]
theorem own_eqref {args : Array Value} {first s : State} {o : Option Outcome} {idx : List Nat} {t u : Term} {v : Value} (h : (Jvm.Cond.eq t u).value args first o s idx = some true) (hu : u.eval args first o idx s = some v) (hv : v.isRef = true) : t.eval args first o idx s = some v := by
  obtain ⟨x, y, hx, hy, hk, hk'⟩ := cmp_v (Or.inl h)
  have ey : y = v := Option.some.inj (hy.symm.trans hu)
  subst ey
  have hxr : x.isRef = true := by cases y <;> simp [Value.isRef] at hv <;> exact hk'.2
  have := gotT (eq_R hx hy hxr hv) h
  rw [hx, this]
theorem own_fld {args : Array Value} {s : State} {t : Term} {C n d : String} {k : Int32} {a : Addr} (ht : t.eval args s none [] s = some (.ref a)) (h : (Jvm.Cond.eq (.field t C n d) (.int k)).value args s none s [] = some true) : Fld s s.heap a C n d (.int k) := Fld.start ((fld_at ht).symm.trans (own_eqint h))
theorem own_fld_inj {Z : State} {h : Heap} {a : Addr} {C n d : String} {v w : Value} (F : Fld Z h a C n d v) (G : Fld Z h a C n d w) : v = w := by
  obtain ⟨c1, cf1, k1, i1, f1, h1, h2, -, -, -, -, h3⟩ := F
  obtain ⟨c2, cf2, k2, i2, f2, g1, g2, -, -, -, -, g3⟩ := G
  rw [h1] at g1; cases g1
  rw [h2] at g2; cases g2
  exact Option.some.inj (h3.symm.trans g3)
theorem own_ne {Z : State} {h : Heap} {a b : Addr} {C n d : String} {i j : Int32} (F : Fld Z h a C n d (.int i)) (G : Fld Z h b C n d (.int j)) (hij : ¬ i = j) : ¬ a = b := fun e => by
  subst e
  exact hij (Value.int.inj (own_fld_inj F G))
theorem own_keep_ext {h h' : Heap} (K : Keep h h' []) : Ext h h' := ⟨K.1, fun a c q => K.2.1 a c q nin0⟩
theorem own_sta_keep {Z : State} {h h' : Heap} {C n d C' : String} {v : Value} {b : Addr} (F : Sta Z h C n d v) (K : Keep h h' [b]) (E : Exa Z h b C') : Sta Z h' C n d v := by
  obtain ⟨cf, i, k, f, st, cell, h1, h2, h3, h4, h5, h6, h7⟩ := F
  obtain ⟨cell', k', g1, g2, g3, g4, g5⟩ := E
  refine ⟨cf, i, k, f, st, cell, h1, h2, h3, h4, K.2.1 st cell h5 (ninS (fun q => ?_) nin0), h6, h7⟩
  subst q
  rw [h5] at g1; cases g1
  rw [h6] at g4; cases g4
theorem own_at {s : State} {w : Addr} {cl : Cell} {ty : FieldType} (A : Arr s s.heap w cl ty) : s.arrayAt? w = some cl := Arr.fin (State.Warmed39.refl s).alike A
theorem own_len {args : Array Value} {s : State} {t : Term} {k : Int32} {w : Addr} {cl : Cell} {ty : FieldType} (ht : t.eval args s none [] s = some (.ref w)) (A : Arr s s.heap w cl ty) (h : (Jvm.Cond.eq (.length t) (.int k)).value args s none s [] = some true) : cl.slots.size = k.toNatClampNeg ∧ ¬ k < 0 ∧ cl.slots.size < 2 ^ 31 := by
  have e := own_eqint h
  have ha := own_at A
  by_cases h1 : cl.slots.size < 2 ^ 31
  · rw [len_f ht ha h1] at e
    have e2 : cl.slots.size.toInt32 = k := Value.int.inj (Option.some.inj e)
    subst e2
    have e3 := len_toInt h1
    refine ⟨?_, ?_, h1⟩
    · show cl.slots.size = (cl.slots.size.toInt32).toInt.toNat
      rw [e3]; rfl
    · rw [Int32.lt_iff_toInt_lt, e3]
      show ¬ ((cl.slots.size : Int) < 0)
      omega
  · simp [Term.eval, ht, ha, h1] at e
theorem own_idx {i : Nat} (hi : i < 2 ^ 31) : i.toInt32.toNatClampNeg = i ∧ ¬ i.toInt32 < 0 := by
  have e3 := len_toInt hi
  refine ⟨?_, ?_⟩
  · show (i.toInt32).toInt.toNat = i
    rw [e3]; rfl
  · rw [Int32.lt_iff_toInt_lt, e3]
    show ¬ ((i : Int) < 0)
    omega
theorem own_elem {args : Array Value} {s : State} {t : Term} {j v : Int32} {w : Addr} {cl : Cell} {ty : FieldType} (ht : t.eval args s none [] s = some (.ref w)) (A : Arr s s.heap w cl ty) (h : (Jvm.Cond.eq (.elem t (.int j)) (.int v)).value args s none s [] = some true) (hj : ¬ j < 0) : cl.slots[j.toNatClampNeg]? = some (.int v) := by
  have e := own_eqint h
  rw [elem_f ht (Term.int_eval j) (own_at A) hj] at e
  exact e
theorem own_elemR {args : Array Value} {s : State} {t u : Term} {j : Int32} {v : Value} {w : Addr} {cl : Cell} {ty : FieldType} (ht : t.eval args s none [] s = some (.ref w)) (A : Arr s s.heap w cl ty) (h : (Jvm.Cond.eq (.elem t (.int j)) u).value args s none s [] = some true) (hu : u.eval args s none [] s = some v) (hv : v.isRef = true) (hj : ¬ j < 0) : cl.slots[j.toNatClampNeg]? = some v := by
  have e := own_eqref h hu hv
  rw [elem_f ht (Term.int_eval j) (own_at A) hj] at e
  exact e
theorem own_or {args : Array Value} {first s : State} {o : Option Outcome} {idx : List Nat} {a b : Jvm.Cond} (h : (Jvm.Cond.or a b).value args first o s idx = some true) (ha : a.value args first o s idx = some false) : b.value args first o s idx = some true := by
  simpa [Cond.value, ha] using h
theorem own_ltl {i : Nat} {k : Int32} (hi : i < 2 ^ 31) (h : (i : Int) < k.toInt) : i.toInt32 < k := by
  rw [Int32.lt_iff_toInt_lt, len_toInt hi]; exact h
theorem own_gel {i : Nat} {k : Int32} (hi : i < 2 ^ 31) (h : k.toInt ≤ (i : Int)) : ¬ i.toInt32 < k := by
  rw [Int32.lt_iff_toInt_lt, len_toInt hi]; omega
theorem own_atidx {args : Array Value} {s : State} {t : Term} {v : Int32} {w : Addr} {cl : Cell} {ty : FieldType} {i : Nat} (ht : t.eval args s none [i] s = some (.ref w)) (A : Arr s s.heap w cl ty) (hi : i < 2 ^ 31) (h : (Jvm.Cond.eq (.elem t (.index 0)) (.int v)).value args s none s [i] = some true) : cl.slots[i]? = some (.int v) := by
  have e := own_eqint h
  rw [elem_f (j := i.toInt32) ht rfl (own_at A) (own_idx hi).2, (own_idx hi).1] at e
  exact e
theorem own_all_a {args : Array Value} {s : State} {t : Term} {K v : Int32} {w : Addr} {cl : Cell} {ty : FieldType} (ht : ∀ idx, t.eval args s none idx s = some (.ref w)) (A : Arr s s.heap w cl ty) (hz : cl.slots.size < 2 ^ 31)
    (h : (Jvm.Cond.all t (.or (.le (.int K) (.index 0)) (.eq (.elem t (.index 0)) (.int v)))).value args s none s [] = some true) (i : Nat) (hi : i < cl.slots.size) (hK : i.toInt32 < K) : cl.slots[i]? = some (.int v) := by
  have h1 := Cond.all_elim (ht []) (own_at A) h i hi
  have h2 := own_or h1 (by
    have q : (Jvm.Cond.le (.int K) (.index 0)).value args s none s [i] = some (decide (K ≤ i.toInt32)) := Cond.le_ints rfl rfl
    rw [q]; simp [Int32.not_le.mpr hK])
  exact own_atidx (ht _) A (by omega) h2
theorem own_all_b {args : Array Value} {s : State} {t : Term} {lo K v : Int32} {w : Addr} {cl : Cell} {ty : FieldType} (ht : ∀ idx, t.eval args s none idx s = some (.ref w)) (A : Arr s s.heap w cl ty) (hz : cl.slots.size < 2 ^ 31)
    (h : (Jvm.Cond.all t (.or (.lt (.index 0) (.int lo)) (.or (.le (.int K) (.index 0)) (.eq (.elem t (.index 0)) (.int v))))).value args s none s [] = some true) (i : Nat) (hi : i < cl.slots.size) (hL : ¬ i.toInt32 < lo) (hK : i.toInt32 < K) : cl.slots[i]? = some (.int v) := by
  have h1 := Cond.all_elim (ht []) (own_at A) h i hi
  have h2 := own_or h1 (by
    have q : (Jvm.Cond.lt (.index 0) (.int lo)).value args s none s [i] = some (decide (i.toInt32 < lo)) := Cond.lt_ints rfl rfl
    rw [q]; simp [hL])
  have h3 := own_or h2 (by
    have q : (Jvm.Cond.le (.int K) (.index 0)).value args s none s [i] = some (decide (K ≤ i.toInt32)) := Cond.le_ints rfl rfl
    rw [q]; simp [Int32.not_le.mpr hK])
  exact own_atidx (ht _) A (by omega) h3
theorem own_rem (x : Int32) (m : Int32) (n : Int) (hm : m.toInt = n) (hn : 0 < n) : 0 ≤ ((x &&& (2147483647 : Int32)) % m).toInt ∧ ((x &&& (2147483647 : Int32)) % m).toInt < n := by
  have e1 : (x &&& (2147483647 : Int32)).toInt = x.toInt % 2 ^ 31 := Jvm.Kit.i32_mask x 2147483647 (k := 31) (by decide) (by decide)
  have h0 : 0 ≤ (x &&& (2147483647 : Int32)).toInt := by rw [e1]; omega
  rw [(c_irem _ m n hm).1 h0]
  exact ⟨Int.emod_nonneg _ (by omega), Int.emod_lt_of_pos _ hn⟩
theorem own_cases9 {k : Int32} (h0 : 0 ≤ k.toInt) (h1 : k.toInt < 9) : k = (0 : Int32) ∨ k = (1 : Int32) ∨ k = (2 : Int32) ∨ k = (3 : Int32) ∨ k = (4 : Int32) ∨ k = (5 : Int32) ∨ k = (6 : Int32) ∨ k = (7 : Int32) ∨ k = (8 : Int32) := by
  have h : k.toInt = 0 ∨ k.toInt = 1 ∨ k.toInt = 2 ∨ k.toInt = 3 ∨ k.toInt = 4 ∨ k.toInt = 5 ∨ k.toInt = 6 ∨ k.toInt = 7 ∨ k.toInt = 8 := by omega
  rcases h with h | h | h | h | h | h | h | h | h
  · exact Or.inl (Int32.toInt_inj.mp (by rw [h]; rfl))
  · exact Or.inr (Or.inl (Int32.toInt_inj.mp (by rw [h]; rfl)))
  · exact Or.inr (Or.inr (Or.inl (Int32.toInt_inj.mp (by rw [h]; rfl))))
  · exact Or.inr (Or.inr (Or.inr (Or.inl (Int32.toInt_inj.mp (by rw [h]; rfl)))))
  · exact Or.inr (Or.inr (Or.inr (Or.inr (Or.inl (Int32.toInt_inj.mp (by rw [h]; rfl))))))
  · exact Or.inr (Or.inr (Or.inr (Or.inr (Or.inr (Or.inl (Int32.toInt_inj.mp (by rw [h]; rfl)))))))
  · exact Or.inr (Or.inr (Or.inr (Or.inr (Or.inr (Or.inr (Or.inl (Int32.toInt_inj.mp (by rw [h]; rfl))))))))
  · exact Or.inr (Or.inr (Or.inr (Or.inr (Or.inr (Or.inr (Or.inr (Or.inl (Int32.toInt_inj.mp (by rw [h]; rfl)))))))))
  · exact Or.inr (Or.inr (Or.inr (Or.inr (Or.inr (Or.inr (Or.inr (Or.inr ((Int32.toInt_inj.mp (by rw [h]; rfl))))))))))
def cs0 : List Int32 := [(99 : Int32), (115 : Int32), (118 : Int32)]
theorem own_cod0 : StrChars.Road.CodA cs0 (0 : Int32) (3 : Int32) (cs0.map Value.int) := StrChars.Road.codOf (cs := cs0) (n := 3) rfl (by decide)
theorem own_b0 : ∀ c ∈ cs0, ¬ c < 0 ∧ ¬ (65535 : Int32) < c := by decide
def cs1 : List Int32 := [(99 : Int32), (97 : Int32), (109 : Int32), (116 : Int32), (46 : Int32), (48 : Int32), (53 : Int32), (52 : Int32)]
theorem own_cod1 : StrChars.Road.CodA cs1 (0 : Int32) (8 : Int32) (cs1.map Value.int) := StrChars.Road.codOf (cs := cs1) (n := 8) rfl (by decide)
theorem own_b1 : ∀ c ∈ cs1, ¬ c < 0 ∧ ¬ (65535 : Int32) < c := by decide
theorem own_codE : StrChars.Road.CodA [] (0 : Int32) (0 : Int32) [] := StrChars.Road.codOf (cs := []) (n := 0) rfl (by decide)
theorem own_ne01 : ¬ cs1 = cs0 := by decide
theorem own_ib {Z : State} {vm : Vm} {Ts : List String} (h : vm.interned = Z.vm.interned) : IB Z vm Ts := ⟨#[], by simp [h], fun q hq => by simp at hq⟩
theorem own_ib_mv {Z : State} {vm vm' : Vm} {Ts : List String} (I : IB Z vm Ts) (h : vm'.interned = vm.interned) : IB Z vm' Ts := by
  obtain ⟨more, e, hm⟩ := I
  exact ⟨more, h.trans e, hm⟩
theorem own_backI {p : Program} {l : Launch} {e : Env} {R : Room} {s : State} {args : Array Value} {below : List Frame} {Z : State} {a0 : Array Value} {h : Heap} {y : MethodName} {bytes : ByteArray} {maxL : Nat} {ret : Option FieldType} {rm : Room} {len W : Nat} {as' : Array Value} {Qv : Option Value → Heap → Vm → List Loc → Prop}
    (hM : MetFree l y (head1 [Jvm.Cond.code y bytes maxL ret] rm) (fun a U => a = as' ∧ Z.Warmed39 U.vm ∧ U.heap = h ∧ U.vm.interned = Z.vm.interned) (fun _ _ _ _ _ => True) (fun _ U o U' => ∃ v L, o = .returned v ∧ Qv v U'.heap U'.vm L ∧ ReturnedEndW U o U' L rm.cells rm.slots))
    (hZ : Z.Warmed39 s.vm) (hI : s.vm.interned = Z.vm.interned) (wc : (Jvm.Cond.code y bytes maxL ret).before a0 Z = true) (wz : (Jvm.Cond.initialized y.cls).before a0 Z = true) (hf : rm.frames + 1 ≤ R.frames) (hl : W + (maxL + 11) + rm.locals ≤ R.locals) :
    BackS l R p e below s args y len W (fun A a => a = as' ∧ A.U.heap = h ∧ A.cells + rm.cells ≤ R.cells ∧ A.slots + rm.slots ≤ R.slots)
      (fun A _ v B => ∃ L, Qv v B.U.heap B.U.vm L ∧ B.locs = A.locs ++ L ∧ B.cells = A.cells + rm.cells ∧ B.slots = A.slots + rm.slots) := by
  refine BackS.of_freeW (bytes := bytes) (maxL := maxL) (ret := ret) (E := fun _ _ o t L k n => k = rm.cells ∧ n = rm.slots ∧ ∃ v, o = .returned v ∧ Qv v t.heap t.vm L) hM hf hl ?_ ?_ (fun _ _ _ _ _ _ _ _ _ => trivial) ?_ ?_
  · intro m meth c A a Y hp
    have hU : Z.Warmed39 A.U.vm := wtrans hZ Y.warmed
    exact ⟨by show (Jvm.Cond.and _ .tt).before a A.U = true; rw [Cond.before_and, mv hU wc]; rfl, mv hU wc, mv hU wz, hp.2.2.1, hp.2.2.2⟩
  · intro m meth c A a g mk Y hp
    exact ⟨hp.1, wtrans hZ Y.warmed, hp.2.1, Y.warmed.interned_eq.trans hI⟩
  · rintro _ _ _ _ ⟨v, L, q1, q2, q3⟩
    exact ⟨L, _, _, q3, rfl, rfl, v, q1, q2⟩
  · rintro m meth c A a g mk v t L k n Y hp _ _ ⟨q1, q2, v', q3, q4⟩
    cases q3; subst q1 q2
    exact ⟨L, q4, rfl, rfl, rfl⟩
theorem own_nestr {Z : State} {h : Heap} {a b t : Addr} {C n d : String} (F : Fld Z h a C n d (.ref t)) (G : Fld Z h b C n d .null) : a ≠ b := fun q => by
  subst q
  exact absurd (own_fld_inj F G) (by simp)
theorem own_narc {c : Int32} (h : ¬ c < 0 ∧ ¬ (255 : Int32) < c) : nar .char c = c := by
  have e1 : c &&& (255 : Int32) = c := by
    apply Int32.toInt_inj.mp
    have e2 : (c &&& (255 : Int32)).toInt = c.toInt % 2 ^ 8 := Jvm.Kit.i32_mask c 255 (k := 8) (by decide) (by decide)
    have h0 : (0 : Int32).toInt = 0 := rfl
    have h1 : (255 : Int32).toInt = 255 := rfl
    rw [Int32.lt_iff_toInt_lt, Int32.lt_iff_toInt_lt] at h
    omega
  have e3 : nar .char c = c.toUInt32.toUInt16.toUInt32.toInt32 := rfl
  rw [e3, ← e1, i2c_mask]
theorem own_up {cs : List Int32} (h : ∀ c ∈ cs, ¬ c < 0 ∧ ¬ (255 : Int32) < c) : ∀ c ∈ cs, ¬ c < 0 ∧ ¬ (65535 : Int32) < c := fun c hc => by
  obtain ⟨q1, q2⟩ := h c hc
  refine ⟨q1, fun q => q2 ?_⟩
  have h1 : (255 : Int32).toInt = 255 := rfl
  have h2 : (65535 : Int32).toInt = 65535 := rfl
  rw [Int32.lt_iff_toInt_lt] at q ⊢
  omega
theorem own_m8 (x : Int32) : ¬ (x &&& (255 : Int32)) < 0 ∧ ¬ (255 : Int32) < (x &&& (255 : Int32)) := by
  have e2 : (x &&& (255 : Int32)).toInt = x.toInt % 2 ^ 8 := Jvm.Kit.i32_mask x 255 (k := 8) (by decide) (by decide)
  have h0 : (0 : Int32).toInt = 0 := rfl
  have h1 : (255 : Int32).toInt = 255 := rfl
  rw [Int32.lt_iff_toInt_lt, Int32.lt_iff_toInt_lt]
  omega
theorem own_cI (x : Int32) : ¬ (((x &&& (255 : Int32)).toUInt32.toUInt16.toUInt32.toInt32) < 0) ∧ ¬ ((255 : Int32) < ((x &&& (255 : Int32)).toUInt32.toUInt16.toUInt32.toInt32)) := by
  rw [i2c_mask]; exact own_m8 x
theorem own_cL (q : Int64) : ¬ ((((q &&& (255 : Int64)).toInt32).toUInt32.toUInt16.toUInt32.toInt32) < 0) ∧ ¬ ((255 : Int32) < (((q &&& (255 : Int64)).toInt32).toUInt32.toUInt16.toUInt32.toInt32)) := by
  have e : (q &&& (255 : Int64)).toInt32 = q.toInt32 &&& (255 : Int32) := by rw [Int64.toInt32_and]; rfl
  rw [e]; exact own_cI _
theorem d3_0 : decode jdk_42_method_149_code 0 = .ok (.aload_n 0, 1) := by decide +kernel
theorem d3_1 : decode jdk_42_method_149_code 1 = .ok (.invokespecial 1, 3) := by decide +kernel
theorem d3_4 : decode jdk_42_method_149_code 4 = .ok (.iload_n 3, 1) := by decide +kernel
theorem d3_5 : decode jdk_42_method_149_code 5 = .ok (.ifCond .ne 22, 3) := by decide +kernel
theorem d3_8 : decode jdk_42_method_149_code 8 = .ok (.aload_n 0, 1) := by decide +kernel
theorem d3_9 : decode jdk_42_method_149_code 9 = .ok (.ldc 7, 2) := by decide +kernel
theorem d3_11 : decode jdk_42_method_149_code 11 = .ok (.getfield 9, 3) := by decide +kernel
theorem d3_14 : decode jdk_42_method_149_code 14 = .ok (.putfield 9, 3) := by decide +kernel
theorem d3_17 : decode jdk_42_method_149_code 17 = .ok (.aload_n 0, 1) := by decide +kernel
theorem d3_18 : decode jdk_42_method_149_code 18 = .ok (.ldc 7, 2) := by decide +kernel
theorem d3_20 : decode jdk_42_method_149_code 20 = .ok (.getfield 15, 3) := by decide +kernel
theorem d3_23 : decode jdk_42_method_149_code 23 = .ok (.putfield 15, 3) := by decide +kernel
theorem d3_26 : decode jdk_42_method_149_code 26 = .ok (.return_, 1) := by decide +kernel
theorem pn_rmE4 : plainName "java/lang/String" = true := by first | (simp [plainName, overriddenIn]; done) | decide +kernel
theorem ef_rmE4 (m : MethodId) (a1 : Addr) (a2 : Addr) : entryFrame m #[(.ref a1), (.ref a2), (.int (0 : Int32)), (.int (0 : Int32)), .null] 6 = mkF m 0 #[.val (.ref a1), .val (.ref a2), .val (.int (0 : Int32)), .val (.int (0 : Int32)), .val .null, .unset] [] := by first | (simp [entryFrame, mkF, argsToLocals, Value.category]; done) | rfl
def Q_rmE4 (Z : State) (a1 : Addr) (a2 : Addr) (h0 : Heap) (n0 : Nat) (v : Option Value) (h : Heap) (VM : Vm) (L : List Loc) : Prop := ∃ t : Addr, ∃ k : ClassId, v = none ∧ Fr n0 L ∧ Keep h0 h [a1] ∧ Exa Z h a1 "java/lang/String" ∧ Fld Z h a1 "java/lang/String" "value" "[B" (.ref t) ∧ Fld Z h a1 "java/lang/String" "coder" "B" (.int (0 : Int32)) ∧ Arv Z h t k .byte (0 : Int32) [] (.int 0) ∧ IB Z VM [""]
set_option maxRecDepth 65536 in
set_option maxHeartbeats 40000000 in
theorem rmE4 (l : Launch) (Z : State) (a0 : Array Value) (hw : ∀ d ∈ tables_1, d.before a0 Z = true) (ws : List Jvm.Cond) (a1 : Addr) (a2 : Addr) (h0 : Heap) (n0 : Nat) (Z0 : n0 ≤ h0.size) (E_a1 : Exa Z h0 a1 "java/lang/String") (F_value : Fld Z h0 a1 "java/lang/String" "value" "[B" .null) (F_coder : Fld Z h0 a1 "java/lang/String" "coder" "B" (.int (0 : Int32))) (g_a1 : n0 ≤ a1) (hkeepZ : ∀ (b : Addr) (cl : Cell), Z.heap[b]? = some cl → h0[b]? = some cl) (hcw : Jvm.Lit.compactW.before a0 Z = true) (hE7 : Jvm.Lit.constHeld Z "java/lang/String" 7) :
    MetFree l (⟨"java/lang/String", "<init>", "([CIILjava/lang/Void;)V"⟩ : MethodName) (head1 (Jvm.Cond.code (⟨"java/lang/String", "<init>", "([CIILjava/lang/Void;)V"⟩ : MethodName) jdk_42_method_149_code 6 none :: ws) ({ frames := 1, cells := 2, slots := 4, locals := 12 } : Room)) (fun a U => a = #[(.ref a1), (.ref a2), (.int (0 : Int32)), (.int (0 : Int32)), .null] ∧ Z.Warmed39 U.vm ∧ U.heap = h0 ∧ U.vm.interned = Z.vm.interned) (fun _ _ _ _ _ => True) (fun _ U o U' => ∃ v L, o = .returned v ∧ Q_rmE4 Z a1 a2 h0 n0 v U'.heap U'.vm L ∧ ReturnedEndW U o U' L ({ frames := 1, cells := 2, slots := 4, locals := 12 } : Room).cells ({ frames := 1, cells := 2, slots := 4, locals := 12 } : Room).slots) := by
  refine MetFree.of_bodySF (plainFor_of_name pn_rmE4) hisR ?_
  intro p e s m args below meth c s₁ Bd hml0 hP hK
  obtain ⟨rfl, hZ, hh, hin0⟩ := hP
  have hx := Bd.exec
  have hby := Bd.bytes
  have hml : c.maxLocals = 6 := hml0
  have hown : s.vm.findClass "java/lang/String" = some m.cls := findClass_of_methodNamed Bd.named
  have hnm := (name_of_methodNamed Bd.named Bd.method).1
  have X0 : Stand p l e ({ frames := 1, cells := 2, slots := 4, locals := 12 } : Room) s m #[(.ref a1), (.ref a2), (.int (0 : Int32)), (.int (0 : Int32)), .null] below meth c s₁ [] 0 0 := Stand.of_body Bd
  have e0 : s₁.heap = h0 := by rw [← hh, Bd.state]; rfl
  have N0 := Fr.nil n0
  have pre0 : ∀ t, Steps p.tables e below (s₁.setTop (mkF m 0 #[.val (.ref a1), .val (.ref a2), .val (.int (0 : Int32)), .val (.int (0 : Int32)), .val .null, .unset] [])) t → Steps p.tables e below (s₁.setTop (entryFrame m #[(.ref a1), (.ref a2), (.int (0 : Int32)), (.int (0 : Int32)), .null] 6)) t := fun t k => castTop (ef_rmE4 m a1 a2) k
  have I0 : IB Z s.vm [] := own_ib hin0
  have hwsS : ∀ d ∈ Bundle.stringAtoms, d.before a0 Z = true := fun d hd => hw d ((by decide +kernel : ∀ d ∈ Bundle.stringAtoms, d ∈ tables_1) d hd)
  have hS0 : s.Since s.vm 0 := (State.WarmedH.refl s).since 0
  obtain ⟨T1, X1, e1, st1⟩ := initO X0 hx hZ hown (hw _ (List.mem_of_getElem? (i := 17) rfl)) (hw _ (List.mem_of_getElem? (i := 18) rfl)) (hw _ (List.mem_of_getElem? (i := 19) rfl)) e0 (g := (mkF m 1 #[.val (.ref a1), .val (.ref a2), .val (.int (0 : Int32)), .val (.int (0 : Int32)), .val .null, .unset] [(.ref a1)])) rfl (by rw [hml]; rfl) rfl (hb hby d3_1) (by decide) (W := 0) (by show 2 * 0 + _ ≤ _; exact Nat.le_of_eq rfl) (by decide)
  obtain ⟨sa2, T2, h2, kk2, sb2, sk2, X2r, e2, E2, hSa2, hka2, hZ2, hown2, A2, C2, V2, K2v, la2, lb2, I2, L2, st2⟩ := ldcSVL (s := (s.setVm s.vm)) (vm0 := s.vm) (Ts := []) X1 hx hZ hown (hw _ (List.mem_of_getElem? (i := 81) rfl)) hwsS e1 ((State.WarmedH.refl (s.setVm s.vm)).since 0) (Nat.zero_le _) (Fr.nil _) (fun b cl q => by show s.heap[b]? = some cl; rw [hh]; exact hkeepZ b cl q) I0 (by decide) hE7 hcw (vs := []) (z := (0 : Int32)) ⟨by decide, by rfl⟩ (by decide) (by rfl) (g := (mkF m 9 #[.val (.ref a1), .val (.ref a2), .val (.int (0 : Int32)), .val (.int (0 : Int32)), .val .null, .unset] [(.ref a1)])) rfl (hb hby d3_9) (n := 0) (by decide) (by decide) (by decide) (by decide)
  have hS2 : s.Since T2.vm h2.size := State.Since.trans hS0 ⟨hSa2.1, hSa2.2.mono hka2⟩ (Nat.le_trans (Nat.zero_le _) E2.1)
  have X2 : Stand p l e ({ frames := 1, cells := 2, slots := 4, locals := 12 } : Room) (s.setVm T2.vm) m #[(.ref a1), (.ref a2), (.int (0 : Int32)), (.int (0 : Int32)), .null] below meth c T2 _ _ _ := X2r
  have K2 : Keep h0 h2 [a1] := ((Keep.refl h0 [a1])).ext E2
  have f3 := (Fld.ext E2 F_value)
  have ne_sa2_a1 : sa2 ≠ a1 := own_nestr V2 f3
  have f4 := (Exa.ext E2 E_a1)
  have ne_a1_sb2 : a1 ≠ sb2 := Exa.neArv f4 K2v (hw _ (List.mem_of_getElem? (i := 8) rfl))
  obtain ⟨T5, X5, e5, st5⟩ := getF X2 hx hZ2 hown2 (host := "") (Or.inl (hw _ (List.mem_of_getElem? (i := 34) rfl))) Via.refl e2 V2 (g := (mkF m 11 #[.val (.ref a1), .val (.ref a2), .val (.int (0 : Int32)), .val (.int (0 : Int32)), .val .null, .unset] [(.ref sa2), (.ref a1)])) rfl rfl (hb hby d3_11)
  obtain ⟨T6, h6, X6, e6, W6, st6⟩ := putF X5 hx hZ2 hown2 (host := "") (Or.inl (hw _ (List.mem_of_getElem? (i := 34) rfl))) Via.refl e5 f3 f4 (Or.inr ⟨(hw _ (List.mem_of_getElem? (i := 35) rfl)), rfl, hnm⟩) (hw _ (List.mem_of_getElem? (i := 8) rfl)) (ty := (.array .byte)) (by decide) rfl rfl (g := (mkF m 14 #[.val (.ref a1), .val (.ref a2), .val (.int (0 : Int32)), .val (.int (0 : Int32)), .val .null, .unset] [(.ref sb2), (.ref a1)])) rfl rfl (hb hby d3_14)
  have Fw6 : Fld Z h6 a1 "java/lang/String" "value" "[B" (.ref sb2) := f3.same W6
  have K6 : Keep h0 h6 [a1] := (K2).wr W6 (Or.inl (List.mem_of_getElem? (i := 0) rfl))
  have N6 := Fr.snoc X6 N0 g_a1
  have f7 := (Fld.other W6 C2 (Or.inl ne_sa2_a1))
  obtain ⟨T8, X8, e8, st8⟩ := getF X6 hx hZ2 hown2 (host := "") (Or.inl (hw _ (List.mem_of_getElem? (i := 32) rfl))) Via.refl e6 f7 (g := (mkF m 20 #[.val (.ref a1), .val (.ref a2), .val (.int (0 : Int32)), .val (.int (0 : Int32)), .val .null, .unset] [(.ref sa2), (.ref a1)])) rfl rfl (hb hby d3_20)
  have f10 := (Exa.wr W6 f4)
  have f11 := (Fld.other W6 (Fld.ext E2 F_coder) (Or.inr (slot_ne (Or.inr (hw _ (List.mem_of_getElem? (i := 33) rfl))) (Or.inr (hw _ (List.mem_of_getElem? (i := 35) rfl))) (by decide) (t := .byte) (t' := (.array .byte)) (by decide) (by decide))))
  obtain ⟨T9, h9, X9, e9, W9, st9⟩ := putFN X8 hx hZ2 hown2 (hw _ (List.mem_of_getElem? (i := 32) rfl)) Via.refl e8 f11 f10 (Or.inr ⟨(hw _ (List.mem_of_getElem? (i := 33) rfl)), rfl, hnm⟩) (hw _ (List.mem_of_getElem? (i := 8) rfl)) (ty := .byte) (v' := (.int (0 : Int32))) (by decide) rfl (fits_nar_byte (0 : Int32)) (g := (mkF m 23 #[.val (.ref a1), .val (.ref a2), .val (.int (0 : Int32)), .val (.int (0 : Int32)), .val .null, .unset] [(.int (0 : Int32)), (.ref a1)])) rfl rfl (hb hby d3_23)
  have Fw9 : Fld Z h9 a1 "java/lang/String" "coder" "B" (.int (0 : Int32)) := f11.same W9
  have K9 : Keep h0 h9 [a1] := (K6).wr W9 (Or.inl (List.mem_of_getElem? (i := 0) rfl))
  have N9 := Fr.snoc X9 N6 g_a1
  have f12 := (Exa.wr W9 f10)
  have f13 := (Fld.other W9 Fw6 (Or.inr (slot_ne (Or.inr (hw _ (List.mem_of_getElem? (i := 35) rfl))) (Or.inr (hw _ (List.mem_of_getElem? (i := 33) rfl))) (by decide) (t := (.array .byte)) (t' := .byte) (by decide) (by decide))))
  have f14 := ((K2v.other W6 (Ne.symm ne_a1_sb2)).other W9 (Ne.symm ne_a1_sb2))
  obtain ⟨fs, hr, hrun, hended, hRW⟩ := Jvm.Stand.leaveW (s := s) (vm₁ := T2.vm) X9 hS2 (show _ ≤ T9.heap.size by rw [e9]; exact (Nat.le_trans (Nat.le_trans (Nat.le_refl h2.size) (Keep.of_wr W6).1) (Keep.of_wr W9).1)) (v := none) (fun _ => rfl)
  refine ⟨_, _, pre0 _ ?_, hrun, hended, _, _, rfl, ?_, hRW.1, hRW.2.1, hRW.2.2.1, hRW.2.2.2.mono (by decide) (by decide)⟩
  · show Steps p.tables e below (s₁.setTop (mkF m 0 #[.val (.ref a1), .val (.ref a2), .val (.int (0 : Int32)), .val (.int (0 : Int32)), .val .null, .unset] [])) _
    refine XS.aloadN X0.here hx rfl (hb hby d3_0) rfl rfl ?_
    show Steps p.tables e below (s₁.setTop (mkF m 1 #[.val (.ref a1), .val (.ref a2), .val (.int (0 : Int32)), .val (.int (0 : Int32)), .val .null, .unset] [(.ref a1)])) _
    refine st1 _ ?_
    show Steps p.tables e below (T1.setTop (mkF m 4 #[.val (.ref a1), .val (.ref a2), .val (.int (0 : Int32)), .val (.int (0 : Int32)), .val .null, .unset] [])) _
    refine XS.iloadN X1.here hx rfl (hb hby d3_4) rfl ?_
    show Steps p.tables e below (T1.setTop (mkF m 5 #[.val (.ref a1), .val (.ref a2), .val (.int (0 : Int32)), .val (.int (0 : Int32)), .val .null, .unset] [(.int (0 : Int32))])) _
    refine XS.ifNo X1.here hx rfl (hb hby d3_5) rfl ((if0 _ _).trans (teq (rfl : (0 : Int32) = (0 : Int32))).2) ?_
    show Steps p.tables e below (T1.setTop (mkF m 8 #[.val (.ref a1), .val (.ref a2), .val (.int (0 : Int32)), .val (.int (0 : Int32)), .val .null, .unset] [])) _
    refine XS.aloadN X1.here hx rfl (hb hby d3_8) rfl rfl ?_
    show Steps p.tables e below (T1.setTop (mkF m 9 #[.val (.ref a1), .val (.ref a2), .val (.int (0 : Int32)), .val (.int (0 : Int32)), .val .null, .unset] [(.ref a1)])) _
    refine st2 _ ?_
    show Steps p.tables e below (T2.setTop (mkF m 11 #[.val (.ref a1), .val (.ref a2), .val (.int (0 : Int32)), .val (.int (0 : Int32)), .val .null, .unset] [(.ref sa2), (.ref a1)])) _
    refine st5 _ ?_
    show Steps p.tables e below (T5.setTop (mkF m 14 #[.val (.ref a1), .val (.ref a2), .val (.int (0 : Int32)), .val (.int (0 : Int32)), .val .null, .unset] [(.ref sb2), (.ref a1)])) _
    refine st6 _ ?_
    show Steps p.tables e below (T6.setTop (mkF m 17 #[.val (.ref a1), .val (.ref a2), .val (.int (0 : Int32)), .val (.int (0 : Int32)), .val .null, .unset] [])) _
    refine XS.aloadN X6.here hx rfl (hb hby d3_17) rfl rfl ?_
    show Steps p.tables e below (T6.setTop (mkF m 18 #[.val (.ref a1), .val (.ref a2), .val (.int (0 : Int32)), .val (.int (0 : Int32)), .val .null, .unset] [(.ref a1)])) _
    refine ldcAgain (s := s) (vm0 := T2.vm) X6 hx hZ2 hown2 (hw _ (List.mem_of_getElem? (i := 81) rfl)) L2 (g := (mkF m 18 #[.val (.ref a1), .val (.ref a2), .val (.int (0 : Int32)), .val (.int (0 : Int32)), .val .null, .unset] [(.ref a1)])) rfl (hb hby d3_18) _ ?_
    show Steps p.tables e below (T6.setTop (mkF m 20 #[.val (.ref a1), .val (.ref a2), .val (.int (0 : Int32)), .val (.int (0 : Int32)), .val .null, .unset] [(.ref sa2), (.ref a1)])) _
    refine st8 _ ?_
    show Steps p.tables e below (T8.setTop (mkF m 23 #[.val (.ref a1), .val (.ref a2), .val (.int (0 : Int32)), .val (.int (0 : Int32)), .val .null, .unset] [(.int (0 : Int32)), (.ref a1)])) _
    refine st9 _ ?_
    show Steps p.tables e below (T9.setTop (mkF m 26 #[.val (.ref a1), .val (.ref a2), .val (.int (0 : Int32)), .val (.int (0 : Int32)), .val .null, .unset] [])) _
    exact X9.returnOut hx Bd.returns (hb hby d3_26) hr
  · show Q_rmE4 Z a1 a2 h0 n0 _ T9.heap T9.vm _
    rw [e9]
    exact ⟨sb2, sk2, rfl, N9, K9, f12, f13, Fw9, f14, own_ib_mv I2 X9.warmed.interned_eq⟩
theorem d2_0 : decode jdk_42_method_3_code 0 = .ok (.aload_n 0, 1) := by decide +kernel
theorem d2_1 : decode jdk_42_method_3_code 1 = .ok (.aload_n 1, 1) := by decide +kernel
theorem d2_2 : decode jdk_42_method_3_code 2 = .ok (.iconst 0, 1) := by decide +kernel
theorem d2_3 : decode jdk_42_method_3_code 3 = .ok (.aload_n 1, 1) := by decide +kernel
theorem d2_4 : decode jdk_42_method_3_code 4 = .ok (.arraylength, 1) := by decide +kernel
theorem d2_5 : decode jdk_42_method_3_code 5 = .ok (.aconst_null, 1) := by decide +kernel
theorem d2_6 : decode jdk_42_method_3_code 6 = .ok (.invokespecial 27, 3) := by decide +kernel
theorem d2_9 : decode jdk_42_method_3_code 9 = .ok (.return_, 1) := by decide +kernel
theorem pn_rmE1 : plainName "java/lang/String" = true := by first | (simp [plainName, overriddenIn]; done) | decide +kernel
theorem pd_rmE1_0 : parseMethodDescriptor "([CIILjava/lang/Void;)V" = some ⟨[(.array .char), .int, .int, (.object "java/lang/Void")], none⟩ := by decide +kernel
theorem ef_rmE1 (m : MethodId) (a1 : Addr) (a2 : Addr) : entryFrame m #[(.ref a1), (.ref a2)] 2 = mkF m 0 #[.val (.ref a1), .val (.ref a2)] [] := by first | (simp [entryFrame, mkF, argsToLocals, Value.category]; done) | rfl
def Q_rmE1 (Z : State) (a1 : Addr) (a2 : Addr) (kc : ClassId) (h0 : Heap) (n0 : Nat) (v : Option Value) (h : Heap) (VM : Vm) (L : List Loc) : Prop := ∃ t : Addr, ∃ k : ClassId, v = none ∧ Fr n0 L ∧ Keep h0 h [a1] ∧ Exa Z h a1 "java/lang/String" ∧ Fld Z h a1 "java/lang/String" "value" "[B" (.ref t) ∧ Fld Z h a1 "java/lang/String" "coder" "B" (.int (0 : Int32)) ∧ Arv Z h t k .byte (0 : Int32) [] (.int 0) ∧ IB Z VM [""]
set_option maxRecDepth 65536 in
set_option maxHeartbeats 40000000 in
theorem rmE1 (l : Launch) (Z : State) (a0 : Array Value) (hw : ∀ d ∈ tables_1, d.before a0 Z = true) (ws : List Jvm.Cond) (a1 : Addr) (a2 : Addr) (kc : ClassId) (h0 : Heap) (n0 : Nat) (Z0 : n0 ≤ h0.size) (E_a1 : Exa Z h0 a1 "java/lang/String") (F_value : Fld Z h0 a1 "java/lang/String" "value" "[B" .null) (F_coder : Fld Z h0 a1 "java/lang/String" "coder" "B" (.int (0 : Int32))) (g_a1 : n0 ≤ a1) (V_a2 : Arv Z h0 a2 kc .char (0 : Int32) [] (.int (0 : Int32))) (hkeepZ : ∀ (b : Addr) (cl : Cell), Z.heap[b]? = some cl → h0[b]? = some cl) (hcw : Jvm.Lit.compactW.before a0 Z = true) (hE7 : Jvm.Lit.constHeld Z "java/lang/String" 7) :
    MetFree l (⟨"java/lang/String", "<init>", "([C)V"⟩ : MethodName) (head1 (Jvm.Cond.code (⟨"java/lang/String", "<init>", "([C)V"⟩ : MethodName) jdk_42_method_3_code 2 none :: ws) ({ frames := 2, cells := 2, slots := 4, locals := 30 } : Room)) (fun a U => a = #[(.ref a1), (.ref a2)] ∧ Z.Warmed39 U.vm ∧ U.heap = h0 ∧ U.vm.interned = Z.vm.interned) (fun _ _ _ _ _ => True) (fun _ U o U' => ∃ v L, o = .returned v ∧ Q_rmE1 Z a1 a2 kc h0 n0 v U'.heap U'.vm L ∧ ReturnedEndW U o U' L ({ frames := 2, cells := 2, slots := 4, locals := 30 } : Room).cells ({ frames := 2, cells := 2, slots := 4, locals := 30 } : Room).slots) := by
  refine MetFree.of_bodySF (plainFor_of_name pn_rmE1) hisR ?_
  intro p e s m args below meth c s₁ Bd hml0 hP hK
  obtain ⟨rfl, hZ, hh, hin0⟩ := hP
  have hx := Bd.exec
  have hby := Bd.bytes
  have hml : c.maxLocals = 2 := hml0
  have hown : s.vm.findClass "java/lang/String" = some m.cls := findClass_of_methodNamed Bd.named
  have hnm := (name_of_methodNamed Bd.named Bd.method).1
  have X0 : Stand p l e ({ frames := 2, cells := 2, slots := 4, locals := 30 } : Room) s m #[(.ref a1), (.ref a2)] below meth c s₁ [] 0 0 := Stand.of_body Bd
  have e0 : s₁.heap = h0 := by rw [← hh, Bd.state]; rfl
  have N0 := Fr.nil n0
  have pre0 : ∀ t, Steps p.tables e below (s₁.setTop (mkF m 0 #[.val (.ref a1), .val (.ref a2)] [])) t → Steps p.tables e below (s₁.setTop (entryFrame m #[(.ref a1), (.ref a2)] 2)) t := fun t k => castTop (ef_rmE1 m a1 a2) k
  have I0 : IB Z s.vm [] := own_ib hin0
  have hwsS : ∀ d ∈ Bundle.stringAtoms, d.before a0 Z = true := fun d hd => hw d ((by decide +kernel : ∀ d ∈ Bundle.stringAtoms, d ∈ tables_1) d hd)
  have hS0 : s.Since s.vm 0 := (State.WarmedH.refl s).since 0
  obtain ⟨cl1, Ar1, q1, S1, N1_, H1, G1⟩ := id V_a2
  obtain ⟨_, _, ⟨T2, L2, k2, n2⟩, -, X2, hS2_2, hg_2, ⟨Lc2, hQ2, l2, y2, z2⟩, st2⟩ := X0.specialBackS hx (y := (⟨"java/lang/String", "<init>", "([CIILjava/lang/Void;)V"⟩ : MethodName)) rfl hown (mvT hZ (hw _ (List.mem_of_getElem? (i := 13) rfl))) (mvT hZ (hw _ (List.mem_of_getElem? (i := 14) rfl))) (mvT hZ (hw _ (List.mem_of_getElem? (i := 16) rfl))) (by decide) (own_backI (W := 0) (rmE4 l Z a0 hw [] a1 a2 h0 n0 Z0 E_a1 F_value F_coder g_a1 hkeepZ hcw hE7) hZ hin0 (hw _ (List.mem_of_getElem? (i := 16) rfl)) (hw _ (List.mem_of_getElem? (i := 9) rfl)) (by decide) (by decide)) (g := (mkF m 6 #[.val (.ref a1), .val (.ref a2)] [.null, (.int (0 : Int32)), (.int (0 : Int32)), (.ref a2), (.ref a1)])) rfl (by rw [hml]; rfl) (Steps.refl _) (a := a1) (argsL := [(.ref a2), (.int (0 : Int32)), (.int (0 : Int32)), .null]) (rest := []) (lenOf pd_rmE1_0 rfl) rfl (by show 2 * 0 + _ ≤ _; exact Nat.le_of_eq rfl) (hb hby d2_6) (fun _ _ => ⟨rfl, e0, (by decide : 0 + 2 ≤ _), (by decide : 0 + 4 ≤ _)⟩)
  dsimp only [Pt.U, Pt.locs, Pt.cells, Pt.slots] at X2 l2 y2 z2 st2 hQ2
  subst l2 y2 z2
  obtain ⟨X2', hS2', hZ2', hown2'⟩ := rebS (s := s) (vm0 := s.vm) hS0 (show _ ≤ s₁.heap.size by rw [e0]; exact (Nat.zero_le _)) X2 hS2_2 hg_2 hZ hown
  obtain ⟨t2, k2_, rfl, N2q, K2q, A2q, V2q, C2q, B2q, I2q⟩ := hQ2
  have N2 := Fr.app N0 N2q
  have K2 : Keep h0 T2.heap [a1] := ((Keep.refl h0 [a1])).trans K2q (allS (Or.inl (List.mem_of_getElem? (i := 0) rfl)) all0)
  obtain ⟨fs, hr, hrun, hended, hRW⟩ := Jvm.Stand.leaveW (s := s) (vm₁ := T2.vm) X2' hS2' (show _ ≤ T2.heap.size by exact (Nat.le_refl T2.heap.size)) (v := none) (fun _ => rfl)
  refine ⟨_, _, pre0 _ ?_, hrun, hended, _, _, rfl, ?_, hRW.1, hRW.2.1, hRW.2.2.1, hRW.2.2.2.mono (by decide) (by decide)⟩
  · show Steps p.tables e below (s₁.setTop (mkF m 0 #[.val (.ref a1), .val (.ref a2)] [])) _
    refine XS.aloadN X0.here hx rfl (hb hby d2_0) rfl rfl ?_
    show Steps p.tables e below (s₁.setTop (mkF m 1 #[.val (.ref a1), .val (.ref a2)] [(.ref a1)])) _
    refine XS.aloadN X0.here hx rfl (hb hby d2_1) rfl rfl ?_
    show Steps p.tables e below (s₁.setTop (mkF m 2 #[.val (.ref a1), .val (.ref a2)] [(.ref a2), (.ref a1)])) _
    refine XS.iconst X0.here hx rfl (hb hby d2_2) ?_
    show Steps p.tables e below (s₁.setTop (mkF m 3 #[.val (.ref a1), .val (.ref a2)] [(.int (0 : Int32)), (.ref a2), (.ref a1)])) _
    refine XS.aloadN X0.here hx rfl (hb hby d2_3) rfl rfl ?_
    show Steps p.tables e below (s₁.setTop (mkF m 4 #[.val (.ref a1), .val (.ref a2)] [(.ref a2), (.int (0 : Int32)), (.ref a2), (.ref a1)])) _
    refine X0.arraylength hx (by rw [e0]; exact Ar1.1) (State.isArrayOf_alike hZ.alike Ar1.2.1) (g := (mkF m 4 #[.val (.ref a1), .val (.ref a2)] [(.ref a2), (.int (0 : Int32)), (.ref a2), (.ref a1)])) rfl rfl (hb hby d2_4) _ ?_
    rw [len_of S1 N1_]
    show Steps p.tables e below (s₁.setTop (mkF m 5 #[.val (.ref a1), .val (.ref a2)] [(.int (0 : Int32)), (.int (0 : Int32)), (.ref a2), (.ref a1)])) _
    refine XS.aconstNull X0.here hx rfl (hb hby d2_5) ?_
    show Steps p.tables e below (s₁.setTop (mkF m 6 #[.val (.ref a1), .val (.ref a2)] [.null, (.int (0 : Int32)), (.int (0 : Int32)), (.ref a2), (.ref a1)])) _
    refine st2.trans ?_
    show Steps p.tables e below (T2.setTop (mkF m 9 #[.val (.ref a1), .val (.ref a2)] [])) _
    exact X2'.returnOut hx Bd.returns (hb hby d2_9) hr
  · show Q_rmE1 Z a1 a2 kc h0 n0 _ T2.heap T2.vm _
    exact ⟨t2, k2_, rfl, N2, K2, A2q, V2q, C2q, B2q, own_ib_mv I2q X2'.warmed.interned_eq⟩
theorem d1_0 : decode method_3_code 0 = .ok (.iload_n 0, 1) := by decide +kernel
theorem d1_1 : decode method_3_code 1 = .ok (.ifCond .ne 14, 3) := by decide +kernel
theorem d1_4 : decode method_3_code 4 = .ok (.new 25, 3) := by decide +kernel
theorem d1_7 : decode method_3_code 7 = .ok (.dup, 1) := by decide +kernel
theorem d1_8 : decode method_3_code 8 = .ok (.iconst 0, 1) := by decide +kernel
theorem d1_9 : decode method_3_code 9 = .ok (.newarray .char, 2) := by decide +kernel
theorem d1_11 : decode method_3_code 11 = .ok (.invokespecial 43, 3) := by decide +kernel
theorem d1_14 : decode method_3_code 14 = .ok (.areturn, 1) := by decide +kernel
theorem d1_15 : decode method_3_code 15 = .ok (.iload_n 0, 1) := by decide +kernel
theorem d1_16 : decode method_3_code 16 = .ok (.iconst 1, 1) := by decide +kernel
theorem d1_17 : decode method_3_code 17 = .ok (.if_icmp .ne 20, 3) := by decide +kernel
theorem d1_20 : decode method_3_code 20 = .ok (.new 25, 3) := by decide +kernel
theorem d1_23 : decode method_3_code 23 = .ok (.dup, 1) := by decide +kernel
theorem d1_24 : decode method_3_code 24 = .ok (.iconst 1, 1) := by decide +kernel
theorem d1_25 : decode method_3_code 25 = .ok (.newarray .char, 2) := by decide +kernel
theorem d1_27 : decode method_3_code 27 = .ok (.dup, 1) := by decide +kernel
theorem d1_28 : decode method_3_code 28 = .ok (.iconst 0, 1) := by decide +kernel
theorem d1_29 : decode method_3_code 29 = .ok (.aload_n 1, 1) := by decide +kernel
theorem d1_30 : decode method_3_code 30 = .ok (.iconst 0, 1) := by decide +kernel
theorem d1_31 : decode method_3_code 31 = .ok (.caload, 1) := by decide +kernel
theorem d1_32 : decode method_3_code 32 = .ok (.castore, 1) := by decide +kernel
theorem d1_33 : decode method_3_code 33 = .ok (.invokespecial 43, 3) := by decide +kernel
theorem d1_36 : decode method_3_code 36 = .ok (.areturn, 1) := by decide +kernel
theorem d1_37 : decode method_3_code 37 = .ok (.iload_n 0, 1) := by decide +kernel
theorem d1_38 : decode method_3_code 38 = .ok (.iconst 2, 1) := by decide +kernel
theorem d1_39 : decode method_3_code 39 = .ok (.if_icmp .ne 26, 3) := by decide +kernel
theorem d1_42 : decode method_3_code 42 = .ok (.new 25, 3) := by decide +kernel
theorem d1_45 : decode method_3_code 45 = .ok (.dup, 1) := by decide +kernel
theorem d1_46 : decode method_3_code 46 = .ok (.iconst 2, 1) := by decide +kernel
theorem d1_47 : decode method_3_code 47 = .ok (.newarray .char, 2) := by decide +kernel
theorem d1_49 : decode method_3_code 49 = .ok (.dup, 1) := by decide +kernel
theorem d1_50 : decode method_3_code 50 = .ok (.iconst 0, 1) := by decide +kernel
theorem d1_51 : decode method_3_code 51 = .ok (.aload_n 1, 1) := by decide +kernel
theorem d1_52 : decode method_3_code 52 = .ok (.iconst 0, 1) := by decide +kernel
theorem d1_53 : decode method_3_code 53 = .ok (.caload, 1) := by decide +kernel
theorem d1_54 : decode method_3_code 54 = .ok (.castore, 1) := by decide +kernel
theorem d1_55 : decode method_3_code 55 = .ok (.dup, 1) := by decide +kernel
theorem d1_56 : decode method_3_code 56 = .ok (.iconst 1, 1) := by decide +kernel
theorem d1_57 : decode method_3_code 57 = .ok (.aload_n 1, 1) := by decide +kernel
theorem d1_58 : decode method_3_code 58 = .ok (.iconst 1, 1) := by decide +kernel
theorem d1_59 : decode method_3_code 59 = .ok (.caload, 1) := by decide +kernel
theorem d1_60 : decode method_3_code 60 = .ok (.castore, 1) := by decide +kernel
theorem d1_61 : decode method_3_code 61 = .ok (.invokespecial 43, 3) := by decide +kernel
theorem d1_64 : decode method_3_code 64 = .ok (.areturn, 1) := by decide +kernel
theorem d1_65 : decode method_3_code 65 = .ok (.iload_n 0, 1) := by decide +kernel
theorem d1_66 : decode method_3_code 66 = .ok (.iconst 3, 1) := by decide +kernel
theorem d1_67 : decode method_3_code 67 = .ok (.if_icmp .ne 32, 3) := by decide +kernel
theorem d1_70 : decode method_3_code 70 = .ok (.new 25, 3) := by decide +kernel
theorem d1_73 : decode method_3_code 73 = .ok (.dup, 1) := by decide +kernel
theorem d1_74 : decode method_3_code 74 = .ok (.iconst 3, 1) := by decide +kernel
theorem d1_75 : decode method_3_code 75 = .ok (.newarray .char, 2) := by decide +kernel
theorem d1_77 : decode method_3_code 77 = .ok (.dup, 1) := by decide +kernel
theorem d1_78 : decode method_3_code 78 = .ok (.iconst 0, 1) := by decide +kernel
theorem d1_79 : decode method_3_code 79 = .ok (.aload_n 1, 1) := by decide +kernel
theorem d1_80 : decode method_3_code 80 = .ok (.iconst 0, 1) := by decide +kernel
theorem d1_81 : decode method_3_code 81 = .ok (.caload, 1) := by decide +kernel
theorem d1_82 : decode method_3_code 82 = .ok (.castore, 1) := by decide +kernel
theorem d1_83 : decode method_3_code 83 = .ok (.dup, 1) := by decide +kernel
theorem d1_84 : decode method_3_code 84 = .ok (.iconst 1, 1) := by decide +kernel
theorem d1_85 : decode method_3_code 85 = .ok (.aload_n 1, 1) := by decide +kernel
theorem d1_86 : decode method_3_code 86 = .ok (.iconst 1, 1) := by decide +kernel
theorem d1_87 : decode method_3_code 87 = .ok (.caload, 1) := by decide +kernel
theorem d1_88 : decode method_3_code 88 = .ok (.castore, 1) := by decide +kernel
theorem d1_89 : decode method_3_code 89 = .ok (.dup, 1) := by decide +kernel
theorem d1_90 : decode method_3_code 90 = .ok (.iconst 2, 1) := by decide +kernel
theorem d1_91 : decode method_3_code 91 = .ok (.aload_n 1, 1) := by decide +kernel
theorem d1_92 : decode method_3_code 92 = .ok (.iconst 2, 1) := by decide +kernel
theorem d1_93 : decode method_3_code 93 = .ok (.caload, 1) := by decide +kernel
theorem d1_94 : decode method_3_code 94 = .ok (.castore, 1) := by decide +kernel
theorem d1_95 : decode method_3_code 95 = .ok (.invokespecial 43, 3) := by decide +kernel
theorem d1_98 : decode method_3_code 98 = .ok (.areturn, 1) := by decide +kernel
theorem d1_99 : decode method_3_code 99 = .ok (.iload_n 0, 1) := by decide +kernel
theorem d1_100 : decode method_3_code 100 = .ok (.iconst 4, 1) := by decide +kernel
theorem d1_101 : decode method_3_code 101 = .ok (.if_icmp .ne 38, 3) := by decide +kernel
theorem d1_104 : decode method_3_code 104 = .ok (.new 25, 3) := by decide +kernel
theorem d1_107 : decode method_3_code 107 = .ok (.dup, 1) := by decide +kernel
theorem d1_108 : decode method_3_code 108 = .ok (.iconst 4, 1) := by decide +kernel
theorem d1_109 : decode method_3_code 109 = .ok (.newarray .char, 2) := by decide +kernel
theorem d1_111 : decode method_3_code 111 = .ok (.dup, 1) := by decide +kernel
theorem d1_112 : decode method_3_code 112 = .ok (.iconst 0, 1) := by decide +kernel
theorem d1_113 : decode method_3_code 113 = .ok (.aload_n 1, 1) := by decide +kernel
theorem d1_114 : decode method_3_code 114 = .ok (.iconst 0, 1) := by decide +kernel
theorem d1_115 : decode method_3_code 115 = .ok (.caload, 1) := by decide +kernel
theorem d1_116 : decode method_3_code 116 = .ok (.castore, 1) := by decide +kernel
theorem d1_117 : decode method_3_code 117 = .ok (.dup, 1) := by decide +kernel
theorem d1_118 : decode method_3_code 118 = .ok (.iconst 1, 1) := by decide +kernel
theorem d1_119 : decode method_3_code 119 = .ok (.aload_n 1, 1) := by decide +kernel
theorem d1_120 : decode method_3_code 120 = .ok (.iconst 1, 1) := by decide +kernel
theorem d1_121 : decode method_3_code 121 = .ok (.caload, 1) := by decide +kernel
theorem d1_122 : decode method_3_code 122 = .ok (.castore, 1) := by decide +kernel
theorem d1_123 : decode method_3_code 123 = .ok (.dup, 1) := by decide +kernel
theorem d1_124 : decode method_3_code 124 = .ok (.iconst 2, 1) := by decide +kernel
theorem d1_125 : decode method_3_code 125 = .ok (.aload_n 1, 1) := by decide +kernel
theorem d1_126 : decode method_3_code 126 = .ok (.iconst 2, 1) := by decide +kernel
theorem d1_127 : decode method_3_code 127 = .ok (.caload, 1) := by decide +kernel
theorem d1_128 : decode method_3_code 128 = .ok (.castore, 1) := by decide +kernel
theorem d1_129 : decode method_3_code 129 = .ok (.dup, 1) := by decide +kernel
theorem d1_130 : decode method_3_code 130 = .ok (.iconst 3, 1) := by decide +kernel
theorem d1_131 : decode method_3_code 131 = .ok (.aload_n 1, 1) := by decide +kernel
theorem d1_132 : decode method_3_code 132 = .ok (.iconst 3, 1) := by decide +kernel
theorem d1_133 : decode method_3_code 133 = .ok (.caload, 1) := by decide +kernel
theorem d1_134 : decode method_3_code 134 = .ok (.castore, 1) := by decide +kernel
theorem d1_135 : decode method_3_code 135 = .ok (.invokespecial 43, 3) := by decide +kernel
theorem d1_138 : decode method_3_code 138 = .ok (.areturn, 1) := by decide +kernel
theorem d1_139 : decode method_3_code 139 = .ok (.iload_n 0, 1) := by decide +kernel
theorem d1_140 : decode method_3_code 140 = .ok (.iconst 5, 1) := by decide +kernel
theorem d1_141 : decode method_3_code 141 = .ok (.if_icmp .ne 44, 3) := by decide +kernel
theorem d1_144 : decode method_3_code 144 = .ok (.new 25, 3) := by decide +kernel
theorem d1_147 : decode method_3_code 147 = .ok (.dup, 1) := by decide +kernel
theorem d1_148 : decode method_3_code 148 = .ok (.iconst 5, 1) := by decide +kernel
theorem d1_149 : decode method_3_code 149 = .ok (.newarray .char, 2) := by decide +kernel
theorem d1_151 : decode method_3_code 151 = .ok (.dup, 1) := by decide +kernel
theorem d1_152 : decode method_3_code 152 = .ok (.iconst 0, 1) := by decide +kernel
theorem d1_153 : decode method_3_code 153 = .ok (.aload_n 1, 1) := by decide +kernel
theorem d1_154 : decode method_3_code 154 = .ok (.iconst 0, 1) := by decide +kernel
theorem d1_155 : decode method_3_code 155 = .ok (.caload, 1) := by decide +kernel
theorem d1_156 : decode method_3_code 156 = .ok (.castore, 1) := by decide +kernel
theorem d1_157 : decode method_3_code 157 = .ok (.dup, 1) := by decide +kernel
theorem d1_158 : decode method_3_code 158 = .ok (.iconst 1, 1) := by decide +kernel
theorem d1_159 : decode method_3_code 159 = .ok (.aload_n 1, 1) := by decide +kernel
theorem d1_160 : decode method_3_code 160 = .ok (.iconst 1, 1) := by decide +kernel
theorem d1_161 : decode method_3_code 161 = .ok (.caload, 1) := by decide +kernel
theorem d1_162 : decode method_3_code 162 = .ok (.castore, 1) := by decide +kernel
theorem d1_163 : decode method_3_code 163 = .ok (.dup, 1) := by decide +kernel
theorem d1_164 : decode method_3_code 164 = .ok (.iconst 2, 1) := by decide +kernel
theorem d1_165 : decode method_3_code 165 = .ok (.aload_n 1, 1) := by decide +kernel
theorem d1_166 : decode method_3_code 166 = .ok (.iconst 2, 1) := by decide +kernel
theorem d1_167 : decode method_3_code 167 = .ok (.caload, 1) := by decide +kernel
theorem d1_168 : decode method_3_code 168 = .ok (.castore, 1) := by decide +kernel
theorem d1_169 : decode method_3_code 169 = .ok (.dup, 1) := by decide +kernel
theorem d1_170 : decode method_3_code 170 = .ok (.iconst 3, 1) := by decide +kernel
theorem d1_171 : decode method_3_code 171 = .ok (.aload_n 1, 1) := by decide +kernel
theorem d1_172 : decode method_3_code 172 = .ok (.iconst 3, 1) := by decide +kernel
theorem d1_173 : decode method_3_code 173 = .ok (.caload, 1) := by decide +kernel
theorem d1_174 : decode method_3_code 174 = .ok (.castore, 1) := by decide +kernel
theorem d1_175 : decode method_3_code 175 = .ok (.dup, 1) := by decide +kernel
theorem d1_176 : decode method_3_code 176 = .ok (.iconst 4, 1) := by decide +kernel
theorem d1_177 : decode method_3_code 177 = .ok (.aload_n 1, 1) := by decide +kernel
theorem d1_178 : decode method_3_code 178 = .ok (.iconst 4, 1) := by decide +kernel
theorem d1_179 : decode method_3_code 179 = .ok (.caload, 1) := by decide +kernel
theorem d1_180 : decode method_3_code 180 = .ok (.castore, 1) := by decide +kernel
theorem d1_181 : decode method_3_code 181 = .ok (.invokespecial 43, 3) := by decide +kernel
theorem d1_184 : decode method_3_code 184 = .ok (.areturn, 1) := by decide +kernel
theorem d1_185 : decode method_3_code 185 = .ok (.iload_n 0, 1) := by decide +kernel
theorem d1_186 : decode method_3_code 186 = .ok (.bipush 6, 2) := by decide +kernel
theorem d1_188 : decode method_3_code 188 = .ok (.if_icmp .ne 51, 3) := by decide +kernel
theorem d1_191 : decode method_3_code 191 = .ok (.new 25, 3) := by decide +kernel
theorem d1_194 : decode method_3_code 194 = .ok (.dup, 1) := by decide +kernel
theorem d1_195 : decode method_3_code 195 = .ok (.bipush 6, 2) := by decide +kernel
theorem d1_197 : decode method_3_code 197 = .ok (.newarray .char, 2) := by decide +kernel
theorem d1_199 : decode method_3_code 199 = .ok (.dup, 1) := by decide +kernel
theorem d1_200 : decode method_3_code 200 = .ok (.iconst 0, 1) := by decide +kernel
theorem d1_201 : decode method_3_code 201 = .ok (.aload_n 1, 1) := by decide +kernel
theorem d1_202 : decode method_3_code 202 = .ok (.iconst 0, 1) := by decide +kernel
theorem d1_203 : decode method_3_code 203 = .ok (.caload, 1) := by decide +kernel
theorem d1_204 : decode method_3_code 204 = .ok (.castore, 1) := by decide +kernel
theorem d1_205 : decode method_3_code 205 = .ok (.dup, 1) := by decide +kernel
theorem d1_206 : decode method_3_code 206 = .ok (.iconst 1, 1) := by decide +kernel
theorem d1_207 : decode method_3_code 207 = .ok (.aload_n 1, 1) := by decide +kernel
theorem d1_208 : decode method_3_code 208 = .ok (.iconst 1, 1) := by decide +kernel
theorem d1_209 : decode method_3_code 209 = .ok (.caload, 1) := by decide +kernel
theorem d1_210 : decode method_3_code 210 = .ok (.castore, 1) := by decide +kernel
theorem d1_211 : decode method_3_code 211 = .ok (.dup, 1) := by decide +kernel
theorem d1_212 : decode method_3_code 212 = .ok (.iconst 2, 1) := by decide +kernel
theorem d1_213 : decode method_3_code 213 = .ok (.aload_n 1, 1) := by decide +kernel
theorem d1_214 : decode method_3_code 214 = .ok (.iconst 2, 1) := by decide +kernel
theorem d1_215 : decode method_3_code 215 = .ok (.caload, 1) := by decide +kernel
theorem d1_216 : decode method_3_code 216 = .ok (.castore, 1) := by decide +kernel
theorem d1_217 : decode method_3_code 217 = .ok (.dup, 1) := by decide +kernel
theorem d1_218 : decode method_3_code 218 = .ok (.iconst 3, 1) := by decide +kernel
theorem d1_219 : decode method_3_code 219 = .ok (.aload_n 1, 1) := by decide +kernel
theorem d1_220 : decode method_3_code 220 = .ok (.iconst 3, 1) := by decide +kernel
theorem d1_221 : decode method_3_code 221 = .ok (.caload, 1) := by decide +kernel
theorem d1_222 : decode method_3_code 222 = .ok (.castore, 1) := by decide +kernel
theorem d1_223 : decode method_3_code 223 = .ok (.dup, 1) := by decide +kernel
theorem d1_224 : decode method_3_code 224 = .ok (.iconst 4, 1) := by decide +kernel
theorem d1_225 : decode method_3_code 225 = .ok (.aload_n 1, 1) := by decide +kernel
theorem d1_226 : decode method_3_code 226 = .ok (.iconst 4, 1) := by decide +kernel
theorem d1_227 : decode method_3_code 227 = .ok (.caload, 1) := by decide +kernel
theorem d1_228 : decode method_3_code 228 = .ok (.castore, 1) := by decide +kernel
theorem d1_229 : decode method_3_code 229 = .ok (.dup, 1) := by decide +kernel
theorem d1_230 : decode method_3_code 230 = .ok (.iconst 5, 1) := by decide +kernel
theorem d1_231 : decode method_3_code 231 = .ok (.aload_n 1, 1) := by decide +kernel
theorem d1_232 : decode method_3_code 232 = .ok (.iconst 5, 1) := by decide +kernel
theorem d1_233 : decode method_3_code 233 = .ok (.caload, 1) := by decide +kernel
theorem d1_234 : decode method_3_code 234 = .ok (.castore, 1) := by decide +kernel
theorem d1_235 : decode method_3_code 235 = .ok (.invokespecial 43, 3) := by decide +kernel
theorem d1_238 : decode method_3_code 238 = .ok (.areturn, 1) := by decide +kernel
theorem d1_239 : decode method_3_code 239 = .ok (.iload_n 0, 1) := by decide +kernel
theorem d1_240 : decode method_3_code 240 = .ok (.bipush 7, 2) := by decide +kernel
theorem d1_242 : decode method_3_code 242 = .ok (.if_icmp .ne 59, 3) := by decide +kernel
theorem d1_245 : decode method_3_code 245 = .ok (.new 25, 3) := by decide +kernel
theorem d1_248 : decode method_3_code 248 = .ok (.dup, 1) := by decide +kernel
theorem d1_249 : decode method_3_code 249 = .ok (.bipush 7, 2) := by decide +kernel
theorem d1_251 : decode method_3_code 251 = .ok (.newarray .char, 2) := by decide +kernel
theorem d1_253 : decode method_3_code 253 = .ok (.dup, 1) := by decide +kernel
theorem d1_254 : decode method_3_code 254 = .ok (.iconst 0, 1) := by decide +kernel
theorem d1_255 : decode method_3_code 255 = .ok (.aload_n 1, 1) := by decide +kernel
theorem d1_256 : decode method_3_code 256 = .ok (.iconst 0, 1) := by decide +kernel
theorem d1_257 : decode method_3_code 257 = .ok (.caload, 1) := by decide +kernel
theorem d1_258 : decode method_3_code 258 = .ok (.castore, 1) := by decide +kernel
theorem d1_259 : decode method_3_code 259 = .ok (.dup, 1) := by decide +kernel
theorem d1_260 : decode method_3_code 260 = .ok (.iconst 1, 1) := by decide +kernel
theorem d1_261 : decode method_3_code 261 = .ok (.aload_n 1, 1) := by decide +kernel
theorem d1_262 : decode method_3_code 262 = .ok (.iconst 1, 1) := by decide +kernel
theorem d1_263 : decode method_3_code 263 = .ok (.caload, 1) := by decide +kernel
theorem d1_264 : decode method_3_code 264 = .ok (.castore, 1) := by decide +kernel
theorem d1_265 : decode method_3_code 265 = .ok (.dup, 1) := by decide +kernel
theorem d1_266 : decode method_3_code 266 = .ok (.iconst 2, 1) := by decide +kernel
theorem d1_267 : decode method_3_code 267 = .ok (.aload_n 1, 1) := by decide +kernel
theorem d1_268 : decode method_3_code 268 = .ok (.iconst 2, 1) := by decide +kernel
theorem d1_269 : decode method_3_code 269 = .ok (.caload, 1) := by decide +kernel
theorem d1_270 : decode method_3_code 270 = .ok (.castore, 1) := by decide +kernel
theorem d1_271 : decode method_3_code 271 = .ok (.dup, 1) := by decide +kernel
theorem d1_272 : decode method_3_code 272 = .ok (.iconst 3, 1) := by decide +kernel
theorem d1_273 : decode method_3_code 273 = .ok (.aload_n 1, 1) := by decide +kernel
theorem d1_274 : decode method_3_code 274 = .ok (.iconst 3, 1) := by decide +kernel
theorem d1_275 : decode method_3_code 275 = .ok (.caload, 1) := by decide +kernel
theorem d1_276 : decode method_3_code 276 = .ok (.castore, 1) := by decide +kernel
theorem d1_277 : decode method_3_code 277 = .ok (.dup, 1) := by decide +kernel
theorem d1_278 : decode method_3_code 278 = .ok (.iconst 4, 1) := by decide +kernel
theorem d1_279 : decode method_3_code 279 = .ok (.aload_n 1, 1) := by decide +kernel
theorem d1_280 : decode method_3_code 280 = .ok (.iconst 4, 1) := by decide +kernel
theorem d1_281 : decode method_3_code 281 = .ok (.caload, 1) := by decide +kernel
theorem d1_282 : decode method_3_code 282 = .ok (.castore, 1) := by decide +kernel
theorem d1_283 : decode method_3_code 283 = .ok (.dup, 1) := by decide +kernel
theorem d1_284 : decode method_3_code 284 = .ok (.iconst 5, 1) := by decide +kernel
theorem d1_285 : decode method_3_code 285 = .ok (.aload_n 1, 1) := by decide +kernel
theorem d1_286 : decode method_3_code 286 = .ok (.iconst 5, 1) := by decide +kernel
theorem d1_287 : decode method_3_code 287 = .ok (.caload, 1) := by decide +kernel
theorem d1_288 : decode method_3_code 288 = .ok (.castore, 1) := by decide +kernel
theorem d1_289 : decode method_3_code 289 = .ok (.dup, 1) := by decide +kernel
theorem d1_290 : decode method_3_code 290 = .ok (.bipush 6, 2) := by decide +kernel
theorem d1_292 : decode method_3_code 292 = .ok (.aload_n 1, 1) := by decide +kernel
theorem d1_293 : decode method_3_code 293 = .ok (.bipush 6, 2) := by decide +kernel
theorem d1_295 : decode method_3_code 295 = .ok (.caload, 1) := by decide +kernel
theorem d1_296 : decode method_3_code 296 = .ok (.castore, 1) := by decide +kernel
theorem d1_297 : decode method_3_code 297 = .ok (.invokespecial 43, 3) := by decide +kernel
theorem d1_300 : decode method_3_code 300 = .ok (.areturn, 1) := by decide +kernel
theorem d1_301 : decode method_3_code 301 = .ok (.iload_n 0, 1) := by decide +kernel
theorem d1_302 : decode method_3_code 302 = .ok (.bipush 8, 2) := by decide +kernel
theorem d1_304 : decode method_3_code 304 = .ok (.if_icmp .ne 67, 3) := by decide +kernel
theorem d1_307 : decode method_3_code 307 = .ok (.new 25, 3) := by decide +kernel
theorem d1_310 : decode method_3_code 310 = .ok (.dup, 1) := by decide +kernel
theorem d1_311 : decode method_3_code 311 = .ok (.bipush 8, 2) := by decide +kernel
theorem d1_313 : decode method_3_code 313 = .ok (.newarray .char, 2) := by decide +kernel
theorem d1_315 : decode method_3_code 315 = .ok (.dup, 1) := by decide +kernel
theorem d1_316 : decode method_3_code 316 = .ok (.iconst 0, 1) := by decide +kernel
theorem d1_317 : decode method_3_code 317 = .ok (.aload_n 1, 1) := by decide +kernel
theorem d1_318 : decode method_3_code 318 = .ok (.iconst 0, 1) := by decide +kernel
theorem d1_319 : decode method_3_code 319 = .ok (.caload, 1) := by decide +kernel
theorem d1_320 : decode method_3_code 320 = .ok (.castore, 1) := by decide +kernel
theorem d1_321 : decode method_3_code 321 = .ok (.dup, 1) := by decide +kernel
theorem d1_322 : decode method_3_code 322 = .ok (.iconst 1, 1) := by decide +kernel
theorem d1_323 : decode method_3_code 323 = .ok (.aload_n 1, 1) := by decide +kernel
theorem d1_324 : decode method_3_code 324 = .ok (.iconst 1, 1) := by decide +kernel
theorem d1_325 : decode method_3_code 325 = .ok (.caload, 1) := by decide +kernel
theorem d1_326 : decode method_3_code 326 = .ok (.castore, 1) := by decide +kernel
theorem d1_327 : decode method_3_code 327 = .ok (.dup, 1) := by decide +kernel
theorem d1_328 : decode method_3_code 328 = .ok (.iconst 2, 1) := by decide +kernel
theorem d1_329 : decode method_3_code 329 = .ok (.aload_n 1, 1) := by decide +kernel
theorem d1_330 : decode method_3_code 330 = .ok (.iconst 2, 1) := by decide +kernel
theorem d1_331 : decode method_3_code 331 = .ok (.caload, 1) := by decide +kernel
theorem d1_332 : decode method_3_code 332 = .ok (.castore, 1) := by decide +kernel
theorem d1_333 : decode method_3_code 333 = .ok (.dup, 1) := by decide +kernel
theorem d1_334 : decode method_3_code 334 = .ok (.iconst 3, 1) := by decide +kernel
theorem d1_335 : decode method_3_code 335 = .ok (.aload_n 1, 1) := by decide +kernel
theorem d1_336 : decode method_3_code 336 = .ok (.iconst 3, 1) := by decide +kernel
theorem d1_337 : decode method_3_code 337 = .ok (.caload, 1) := by decide +kernel
theorem d1_338 : decode method_3_code 338 = .ok (.castore, 1) := by decide +kernel
theorem d1_339 : decode method_3_code 339 = .ok (.dup, 1) := by decide +kernel
theorem d1_340 : decode method_3_code 340 = .ok (.iconst 4, 1) := by decide +kernel
theorem d1_341 : decode method_3_code 341 = .ok (.aload_n 1, 1) := by decide +kernel
theorem d1_342 : decode method_3_code 342 = .ok (.iconst 4, 1) := by decide +kernel
theorem d1_343 : decode method_3_code 343 = .ok (.caload, 1) := by decide +kernel
theorem d1_344 : decode method_3_code 344 = .ok (.castore, 1) := by decide +kernel
theorem d1_345 : decode method_3_code 345 = .ok (.dup, 1) := by decide +kernel
theorem d1_346 : decode method_3_code 346 = .ok (.iconst 5, 1) := by decide +kernel
theorem d1_347 : decode method_3_code 347 = .ok (.aload_n 1, 1) := by decide +kernel
theorem d1_348 : decode method_3_code 348 = .ok (.iconst 5, 1) := by decide +kernel
theorem d1_349 : decode method_3_code 349 = .ok (.caload, 1) := by decide +kernel
theorem d1_350 : decode method_3_code 350 = .ok (.castore, 1) := by decide +kernel
theorem d1_351 : decode method_3_code 351 = .ok (.dup, 1) := by decide +kernel
theorem d1_352 : decode method_3_code 352 = .ok (.bipush 6, 2) := by decide +kernel
theorem d1_354 : decode method_3_code 354 = .ok (.aload_n 1, 1) := by decide +kernel
theorem d1_355 : decode method_3_code 355 = .ok (.bipush 6, 2) := by decide +kernel
theorem d1_357 : decode method_3_code 357 = .ok (.caload, 1) := by decide +kernel
theorem d1_358 : decode method_3_code 358 = .ok (.castore, 1) := by decide +kernel
theorem d1_359 : decode method_3_code 359 = .ok (.dup, 1) := by decide +kernel
theorem d1_360 : decode method_3_code 360 = .ok (.bipush 7, 2) := by decide +kernel
theorem d1_362 : decode method_3_code 362 = .ok (.aload_n 1, 1) := by decide +kernel
theorem d1_363 : decode method_3_code 363 = .ok (.bipush 7, 2) := by decide +kernel
theorem d1_365 : decode method_3_code 365 = .ok (.caload, 1) := by decide +kernel
theorem d1_366 : decode method_3_code 366 = .ok (.castore, 1) := by decide +kernel
theorem d1_367 : decode method_3_code 367 = .ok (.invokespecial 43, 3) := by decide +kernel
theorem d1_370 : decode method_3_code 370 = .ok (.areturn, 1) := by decide +kernel
theorem d1_371 : decode method_3_code 371 = .ok (.new 25, 3) := by decide +kernel
theorem d1_374 : decode method_3_code 374 = .ok (.dup, 1) := by decide +kernel
theorem d1_375 : decode method_3_code 375 = .ok (.bipush 9, 2) := by decide +kernel
theorem d1_377 : decode method_3_code 377 = .ok (.newarray .char, 2) := by decide +kernel
theorem d1_379 : decode method_3_code 379 = .ok (.dup, 1) := by decide +kernel
theorem d1_380 : decode method_3_code 380 = .ok (.iconst 0, 1) := by decide +kernel
theorem d1_381 : decode method_3_code 381 = .ok (.aload_n 1, 1) := by decide +kernel
theorem d1_382 : decode method_3_code 382 = .ok (.iconst 0, 1) := by decide +kernel
theorem d1_383 : decode method_3_code 383 = .ok (.caload, 1) := by decide +kernel
theorem d1_384 : decode method_3_code 384 = .ok (.castore, 1) := by decide +kernel
theorem d1_385 : decode method_3_code 385 = .ok (.dup, 1) := by decide +kernel
theorem d1_386 : decode method_3_code 386 = .ok (.iconst 1, 1) := by decide +kernel
theorem d1_387 : decode method_3_code 387 = .ok (.aload_n 1, 1) := by decide +kernel
theorem d1_388 : decode method_3_code 388 = .ok (.iconst 1, 1) := by decide +kernel
theorem d1_389 : decode method_3_code 389 = .ok (.caload, 1) := by decide +kernel
theorem d1_390 : decode method_3_code 390 = .ok (.castore, 1) := by decide +kernel
theorem d1_391 : decode method_3_code 391 = .ok (.dup, 1) := by decide +kernel
theorem d1_392 : decode method_3_code 392 = .ok (.iconst 2, 1) := by decide +kernel
theorem d1_393 : decode method_3_code 393 = .ok (.aload_n 1, 1) := by decide +kernel
theorem d1_394 : decode method_3_code 394 = .ok (.iconst 2, 1) := by decide +kernel
theorem d1_395 : decode method_3_code 395 = .ok (.caload, 1) := by decide +kernel
theorem d1_396 : decode method_3_code 396 = .ok (.castore, 1) := by decide +kernel
theorem d1_397 : decode method_3_code 397 = .ok (.dup, 1) := by decide +kernel
theorem d1_398 : decode method_3_code 398 = .ok (.iconst 3, 1) := by decide +kernel
theorem d1_399 : decode method_3_code 399 = .ok (.aload_n 1, 1) := by decide +kernel
theorem d1_400 : decode method_3_code 400 = .ok (.iconst 3, 1) := by decide +kernel
theorem d1_401 : decode method_3_code 401 = .ok (.caload, 1) := by decide +kernel
theorem d1_402 : decode method_3_code 402 = .ok (.castore, 1) := by decide +kernel
theorem d1_403 : decode method_3_code 403 = .ok (.dup, 1) := by decide +kernel
theorem d1_404 : decode method_3_code 404 = .ok (.iconst 4, 1) := by decide +kernel
theorem d1_405 : decode method_3_code 405 = .ok (.aload_n 1, 1) := by decide +kernel
theorem d1_406 : decode method_3_code 406 = .ok (.iconst 4, 1) := by decide +kernel
theorem d1_407 : decode method_3_code 407 = .ok (.caload, 1) := by decide +kernel
theorem d1_408 : decode method_3_code 408 = .ok (.castore, 1) := by decide +kernel
theorem d1_409 : decode method_3_code 409 = .ok (.dup, 1) := by decide +kernel
theorem d1_410 : decode method_3_code 410 = .ok (.iconst 5, 1) := by decide +kernel
theorem d1_411 : decode method_3_code 411 = .ok (.aload_n 1, 1) := by decide +kernel
theorem d1_412 : decode method_3_code 412 = .ok (.iconst 5, 1) := by decide +kernel
theorem d1_413 : decode method_3_code 413 = .ok (.caload, 1) := by decide +kernel
theorem d1_414 : decode method_3_code 414 = .ok (.castore, 1) := by decide +kernel
theorem d1_415 : decode method_3_code 415 = .ok (.dup, 1) := by decide +kernel
theorem d1_416 : decode method_3_code 416 = .ok (.bipush 6, 2) := by decide +kernel
theorem d1_418 : decode method_3_code 418 = .ok (.aload_n 1, 1) := by decide +kernel
theorem d1_419 : decode method_3_code 419 = .ok (.bipush 6, 2) := by decide +kernel
theorem d1_421 : decode method_3_code 421 = .ok (.caload, 1) := by decide +kernel
theorem d1_422 : decode method_3_code 422 = .ok (.castore, 1) := by decide +kernel
theorem d1_423 : decode method_3_code 423 = .ok (.dup, 1) := by decide +kernel
theorem d1_424 : decode method_3_code 424 = .ok (.bipush 7, 2) := by decide +kernel
theorem d1_426 : decode method_3_code 426 = .ok (.aload_n 1, 1) := by decide +kernel
theorem d1_427 : decode method_3_code 427 = .ok (.bipush 7, 2) := by decide +kernel
theorem d1_429 : decode method_3_code 429 = .ok (.caload, 1) := by decide +kernel
theorem d1_430 : decode method_3_code 430 = .ok (.castore, 1) := by decide +kernel
theorem d1_431 : decode method_3_code 431 = .ok (.dup, 1) := by decide +kernel
theorem d1_432 : decode method_3_code 432 = .ok (.bipush 8, 2) := by decide +kernel
theorem d1_434 : decode method_3_code 434 = .ok (.aload_n 1, 1) := by decide +kernel
theorem d1_435 : decode method_3_code 435 = .ok (.bipush 8, 2) := by decide +kernel
theorem d1_437 : decode method_3_code 437 = .ok (.caload, 1) := by decide +kernel
theorem d1_438 : decode method_3_code 438 = .ok (.castore, 1) := by decide +kernel
theorem d1_439 : decode method_3_code 439 = .ok (.invokespecial 43, 3) := by decide +kernel
theorem d1_442 : decode method_3_code 442 = .ok (.areturn, 1) := by decide +kernel
theorem pn_rmT : plainName "com/example/payspread/payspread/io/FormatNamedPinLaw" = true := by first | (simp [plainName, overriddenIn]; done) | decide +kernel
theorem pd_rmT_0 : parseMethodDescriptor "([C)V" = some ⟨[(.array .char)], none⟩ := by decide +kernel
theorem ef_rmT (m : MethodId) (p1 : Int32) (a2 : Addr) : entryFrame m #[(.int p1), (.ref a2)] 2 = mkF m 0 #[.val (.int p1), .val (.ref a2)] [] := by first | (simp [entryFrame, mkF, argsToLocals, Value.category]; done) | rfl
def Q_rmT (Z : State) (p1 : Int32) (a2 : Addr) (kd : ClassId) (zc : Int32) (c0 : Int32) (c1 : Int32) (c2 : Int32) (c3 : Int32) (c4 : Int32) (c5 : Int32) (c6 : Int32) (c7 : Int32) (c8 : Int32) (h0 : Heap) (n0 : Nat) (v : Option Value) (h : Heap) (VM : Vm) (L : List Loc) : Prop := ∃ u : Addr, ∃ t : Addr, ∃ k : ClassId, ∃ cs : List Int32, ∃ N2 : Int32, ∃ vs : List Value, v = some (.ref u) ∧ Fr n0 L ∧ Keep h0 h [] ∧ Exa Z h u "java/lang/String" ∧ Fld Z h u "java/lang/String" "value" "[B" (.ref t) ∧ Fld Z h u "java/lang/String" "coder" "B" (.int (0 : Int32)) ∧ Arv Z h t k .byte N2 vs (.int 0) ∧ StrChars.Road.CodA cs (0 : Int32) N2 vs ∧ (∀ c ∈ cs, ¬ c < 0 ∧ ¬ (65535 : Int32) < c) ∧ cs.length ≤ 4000 ∧ IB Z VM [""]
set_option maxRecDepth 65536 in
set_option maxHeartbeats 40000000 in
theorem rmT (l : Launch) (Z : State) (a0 : Array Value) (hw : ∀ d ∈ tables_1, d.before a0 Z = true) (ws : List Jvm.Cond) (p1 : Int32) (a2 : Addr) (kd : ClassId) (zc : Int32) (c0 : Int32) (c1 : Int32) (c2 : Int32) (c3 : Int32) (c4 : Int32) (c5 : Int32) (c6 : Int32) (c7 : Int32) (c8 : Int32) (h0 : Heap) (n0 : Nat) (Z0 : n0 ≤ h0.size) (V_a2 : Arv Z h0 a2 kd .char (9 : Int32) [.int c0, .int c1, .int c2, .int c3, .int c4, .int c5, .int c6, .int c7, .int c8] (.int (0 : Int32))) (hbn : (¬ c0 < 0 ∧ ¬ (255 : Int32) < c0) ∧ (¬ c1 < 0 ∧ ¬ (255 : Int32) < c1) ∧ (¬ c2 < 0 ∧ ¬ (255 : Int32) < c2) ∧ (¬ c3 < 0 ∧ ¬ (255 : Int32) < c3) ∧ (¬ c4 < 0 ∧ ¬ (255 : Int32) < c4) ∧ (¬ c5 < 0 ∧ ¬ (255 : Int32) < c5) ∧ (¬ c6 < 0 ∧ ¬ (255 : Int32) < c6) ∧ (¬ c7 < 0 ∧ ¬ (255 : Int32) < c7) ∧ (¬ c8 < 0 ∧ ¬ (255 : Int32) < c8)) (S_C : Sta Z h0 "java/lang/String" "COMPACT_STRINGS" "Z" (.int zc)) (hzc : ¬ zc = 0) (hkeepZ : ∀ (b : Addr) (cl : Cell), Z.heap[b]? = some cl → h0[b]? = some cl) (hcw : Jvm.Lit.compactW.before a0 Z = true) (hE7 : Jvm.Lit.constHeld Z "java/lang/String" 7) :
    MetFree l (⟨"com/example/payspread/payspread/io/FormatNamedPinLaw", "str", "(I[C)Ljava/lang/String;"⟩ : MethodName) (head1 (Jvm.Cond.code (⟨"com/example/payspread/payspread/io/FormatNamedPinLaw", "str", "(I[C)Ljava/lang/String;"⟩ : MethodName) method_3_code 2 (some (.object "java/lang/String")) :: ws) ({ frames := 4, cells := 4, slots := 22, locals := 70 } : Room)) (fun a U => a = #[(.int p1), (.ref a2)] ∧ Z.Warmed39 U.vm ∧ U.heap = h0 ∧ U.vm.interned = Z.vm.interned) (fun _ _ _ _ _ => True) (fun _ U o U' => ∃ v L, o = .returned v ∧ Q_rmT Z p1 a2 kd zc c0 c1 c2 c3 c4 c5 c6 c7 c8 h0 n0 v U'.heap U'.vm L ∧ ReturnedEndW U o U' L ({ frames := 4, cells := 4, slots := 22, locals := 70 } : Room).cells ({ frames := 4, cells := 4, slots := 22, locals := 70 } : Room).slots) := by
  refine MetFree.of_bodySF (plainFor_of_name pn_rmT) hisR ?_
  intro p e s m args below meth c s₁ Bd hml0 hP hK
  obtain ⟨rfl, hZ, hh, hin0⟩ := hP
  have hx := Bd.exec
  have hby := Bd.bytes
  have hml : c.maxLocals = 2 := hml0
  have hown : s.vm.findClass "com/example/payspread/payspread/io/FormatNamedPinLaw" = some m.cls := findClass_of_methodNamed Bd.named
  have hnm := (name_of_methodNamed Bd.named Bd.method).1
  have X0 : Stand p l e ({ frames := 4, cells := 4, slots := 22, locals := 70 } : Room) s m #[(.int p1), (.ref a2)] below meth c s₁ [] 0 0 := Stand.of_body Bd
  have e0 : s₁.heap = h0 := by rw [← hh, Bd.state]; rfl
  have N0 := Fr.nil n0
  have pre0 : ∀ t, Steps p.tables e below (s₁.setTop (mkF m 0 #[.val (.int p1), .val (.ref a2)] [])) t → Steps p.tables e below (s₁.setTop (entryFrame m #[(.int p1), (.ref a2)] 2)) t := fun t k => castTop (ef_rmT m p1 a2) k
  have I0 : IB Z s.vm [] := own_ib hin0
  have hwsS : ∀ d ∈ Bundle.stringAtoms, d.before a0 Z = true := fun d hd => hw d ((by decide +kernel : ∀ d ∈ Bundle.stringAtoms, d ∈ tables_1) d hd)
  have hS0 : s.Since s.vm 0 := (State.WarmedH.refl s).since 0
  have pre1 : ∀ t, Steps p.tables e below (s₁.setTop (mkF m 1 #[.val (.int p1), .val (.ref a2)] [(.int p1)])) t → Steps p.tables e below (s₁.setTop (entryFrame m #[(.int p1), (.ref a2)] 2)) t := fun t k => pre0 t (by
      show Steps p.tables e below (s₁.setTop (mkF m 0 #[.val (.int p1), .val (.ref a2)] [])) _
      refine XS.iloadN X0.here hx rfl (hb hby d1_0) rfl ?_
      exact k)
  by_cases hc2 : p1 = (0 : Int32)
  · obtain ⟨T3, h3, X3, e3, E3, A3, D3, -, st3⟩ := newO X0 hx hZ hown (hw _ (List.mem_of_getElem? (i := 7) rfl)) (hw _ (List.mem_of_getElem? (i := 8) rfl)) (hw _ (List.mem_of_getElem? (i := 9) rfl)) e0 (g := (mkF m 4 #[.val (.int p1), .val (.ref a2)] [])) rfl (hb hby d1_4) (by decide) (by decide)
    obtain ⟨b3, g3⟩ : ∃ z, z = h0.size := ⟨_, rfl⟩
    rw [← g3] at A3 D3 st3
    have ne_a2_b3 : a2 ≠ b3 := Nat.ne_of_lt (Nat.lt_of_lt_of_le V_a2.lt (Nat.le_of_eq g3.symm))
    have g_b3 : n0 ≤ b3 := Nat.le_trans Z0 (Nat.le_of_eq g3.symm)
    have sz_b3 : h0.size ≤ b3 := Nat.le_trans ((Keep.refl h0 [])).1 (Nat.le_of_eq g3.symm)
    have K3 : Keep h0 h3 [] := ((Keep.refl h0 [])).ext E3
    have F3_coder : Fld Z h3 b3 "java/lang/String" "coder" "B" (.int (0 : Int32)) := D3 (Or.inr (hw _ (List.mem_of_getElem? (i := 33) rfl))) (ty := .byte) (by decide)
    have F3_value : Fld Z h3 b3 "java/lang/String" "value" "[B" .null := D3 (Or.inr (hw _ (List.mem_of_getElem? (i := 35) rfl))) (ty := (.array .byte)) (by decide)
    have f4 := (V_a2.ext E3)
    obtain ⟨T5, h5, k5, X5, e5, E5, A5, st5⟩ := newP X3 hx hZ (hw _ (List.mem_of_getElem? (i := 1) rfl)) e3 (g := (mkF m 9 #[.val (.int p1), .val (.ref a2)] [(.int (0 : Int32)), (.ref b3), (.ref b3)])) rfl (hb hby d1_9) rfl (by decide) (cap := 0) (by decide) (by decide) (by decide) (by decide)
    obtain ⟨b5, g5⟩ : ∃ z, z = h3.size := ⟨_, rfl⟩
    rw [← g5] at A5 st5
    have ne_a2_b5 : a2 ≠ b5 := Nat.ne_of_lt (Nat.lt_of_lt_of_le f4.lt (Nat.le_of_eq g5.symm))
    have ne_b3_b5 : b3 ≠ b5 := Nat.ne_of_lt (Nat.lt_of_lt_of_le A3.lt (Nat.le_of_eq g5.symm))
    have V_b5 : Arv Z h5 b5 k5 .char (0 : Int32) [] (.int (0 : Int32)) := (Arv.new A5 (by decide)).pad (pad_rep [] (.int (0 : Int32)) 0)
    have g_b5 : n0 ≤ b5 := Nat.le_trans (Nat.le_trans Z0 K3.1) (Nat.le_of_eq g5.symm)
    have sz_b5 : h0.size ≤ b5 := Nat.le_trans (K3).1 (Nat.le_of_eq g5.symm)
    have K5 : Keep h0 h5 [] := (K3).ext E5
    have f6 := (Exa.ext E5 A3)
    have f7 := (Fld.ext E5 F3_value)
    have f8 := (Fld.ext E5 F3_coder)
    obtain ⟨_, _, ⟨T9, L9, k9, n9⟩, -, X9, hS2_9, hg_9, ⟨Lc9, hQ9, l9, y9, z9⟩, st9⟩ := X5.specialBackS hx (y := (⟨"java/lang/String", "<init>", "([C)V"⟩ : MethodName)) rfl hown (mvT hZ (hw _ (List.mem_of_getElem? (i := 10) rfl))) (mvT hZ (hw _ (List.mem_of_getElem? (i := 11) rfl))) (mvT hZ (hw _ (List.mem_of_getElem? (i := 12) rfl))) (by decide) (own_backI (W := 1) (rmE1 l Z a0 hw [] b3 b5 k5 h5 n0 (Nat.le_trans Z0 K5.1) f6 f7 f8 g_b3 V_b5 (fun x cl q => (own_keep_ext K5).2 x cl (hkeepZ x cl q)) hcw hE7) hZ hin0 (hw _ (List.mem_of_getElem? (i := 12) rfl)) (hw _ (List.mem_of_getElem? (i := 9) rfl)) (by decide) (by decide)) (g := (mkF m 11 #[.val (.int p1), .val (.ref a2)] [(.ref b5), (.ref b3), (.ref b3)])) rfl (by rw [hml]; rfl) (Steps.refl _) (a := b3) (argsL := [(.ref b5)]) (rest := [(.ref b3)]) (lenOf pd_rmT_0 rfl) rfl (by show 2 * 0 + _ ≤ _; exact Nat.le_of_eq rfl) (hb hby d1_11) (fun _ _ => ⟨rfl, e5, (by decide : 2 + 2 ≤ _), (by decide : 4 + 4 ≤ _)⟩)
    dsimp only [Pt.U, Pt.locs, Pt.cells, Pt.slots] at X9 l9 y9 z9 st9 hQ9
    subst l9 y9 z9
    obtain ⟨X9', hS9', hZ9', hown9'⟩ := rebS (s := s) (vm0 := s.vm) hS0 (show _ ≤ T5.heap.size by rw [e5]; exact (Nat.le_trans (Nat.le_trans (Nat.zero_le _) (E3).1) (E5).1)) X9 hS2_9 hg_9 hZ hown
    obtain ⟨t9, k9_, rfl, N9q, K9q, A9q, V9q, C9q, B9q, I9q⟩ := hQ9
    have N9 := Fr.app N0 N9q
    have K9 : Keep h0 T9.heap [] := (K5).trans K9q (allS (Or.inr sz_b3) all0)
    obtain ⟨fs, hr, hrun, hended, hRW⟩ := Jvm.Stand.leaveW (s := s) (vm₁ := T9.vm) X9' hS9' (show _ ≤ T9.heap.size by exact (Nat.le_refl T9.heap.size)) (v := some (.ref b3)) (fun h => by rw [Bd.returns] at h; cases h)
    refine ⟨_, _, pre1 _ ?_, hrun, hended, _, _, rfl, ?_, hRW.1, hRW.2.1, hRW.2.2.1, hRW.2.2.2.mono (by decide) (by decide)⟩
    · show Steps p.tables e below (s₁.setTop (mkF m 1 #[.val (.int p1), .val (.ref a2)] [(.int p1)])) _
      refine XS.ifNo X0.here hx rfl (hb hby d1_1) rfl ((if0 _ _).trans (teq hc2).2) ?_
      show Steps p.tables e below (s₁.setTop (mkF m 4 #[.val (.int p1), .val (.ref a2)] [])) _
      refine st3 _ ?_
      show Steps p.tables e below (T3.setTop (mkF m 7 #[.val (.int p1), .val (.ref a2)] [(.ref b3)])) _
      refine XS.dup X3.here hx rfl (hb hby d1_7) rfl rfl ?_
      show Steps p.tables e below (T3.setTop (mkF m 8 #[.val (.int p1), .val (.ref a2)] [(.ref b3), (.ref b3)])) _
      refine XS.iconst X3.here hx rfl (hb hby d1_8) ?_
      show Steps p.tables e below (T3.setTop (mkF m 9 #[.val (.int p1), .val (.ref a2)] [(.int (0 : Int32)), (.ref b3), (.ref b3)])) _
      refine st5 _ ?_
      show Steps p.tables e below (T5.setTop (mkF m 11 #[.val (.int p1), .val (.ref a2)] [(.ref b5), (.ref b3), (.ref b3)])) _
      refine st9.trans ?_
      show Steps p.tables e below (T9.setTop (mkF m 14 #[.val (.int p1), .val (.ref a2)] [(.ref b3)])) _
      jvm_step X9'.here [X9'.here.top, hx, (hb hby d1_14), X9'.method', Bd.returns, Value.isRef, FieldType.isReference]
      first | (intro acts; rw [hr _ acts rfl rfl rfl]) | rw [hr _ _ rfl rfl rfl]
      exact Steps.refl _
    · show Q_rmT Z p1 a2 kd zc c0 c1 c2 c3 c4 c5 c6 c7 c8 h0 n0 _ T9.heap T9.vm _
      exact ⟨b3, t9, k9_, [], (0 : Int32), [], rfl, N9, K9, A9q, V9q, C9q, B9q, own_codE, (fun c hc => by cases hc), (by decide), own_ib_mv I9q X9'.warmed.interned_eq⟩
  · have pre10 : ∀ t, Steps p.tables e below (s₁.setTop (mkF m 17 #[.val (.int p1), .val (.ref a2)] [(.int (1 : Int32)), (.int p1)])) t → Steps p.tables e below (s₁.setTop (entryFrame m #[(.int p1), (.ref a2)] 2)) t := fun t k => pre1 t (by
        show Steps p.tables e below (s₁.setTop (mkF m 1 #[.val (.int p1), .val (.ref a2)] [(.int p1)])) _
        refine XS.ifYes X0.here hx rfl (pc0 := 1) (pc' := 15) rfl (hb hby d1_1) rfl ((if0 _ _).trans (feq hc2).2) (by decide) (by decide) ?_
        show Steps p.tables e below (s₁.setTop (mkF m 15 #[.val (.int p1), .val (.ref a2)] [])) _
        refine XS.iloadN X0.here hx rfl (hb hby d1_15) rfl ?_
        show Steps p.tables e below (s₁.setTop (mkF m 16 #[.val (.int p1), .val (.ref a2)] [(.int p1)])) _
        refine XS.iconst X0.here hx rfl (hb hby d1_16) ?_
        exact k)
    by_cases hc11 : p1 = (1 : Int32)
    · obtain ⟨T12, h12, X12, e12, E12, A12, D12, -, st12⟩ := newO X0 hx hZ hown (hw _ (List.mem_of_getElem? (i := 7) rfl)) (hw _ (List.mem_of_getElem? (i := 8) rfl)) (hw _ (List.mem_of_getElem? (i := 9) rfl)) e0 (g := (mkF m 20 #[.val (.int p1), .val (.ref a2)] [])) rfl (hb hby d1_20) (by decide) (by decide)
      obtain ⟨b12, g12⟩ : ∃ z, z = h0.size := ⟨_, rfl⟩
      rw [← g12] at A12 D12 st12
      have ne_a2_b12 : a2 ≠ b12 := Nat.ne_of_lt (Nat.lt_of_lt_of_le V_a2.lt (Nat.le_of_eq g12.symm))
      have g_b12 : n0 ≤ b12 := Nat.le_trans Z0 (Nat.le_of_eq g12.symm)
      have sz_b12 : h0.size ≤ b12 := Nat.le_trans ((Keep.refl h0 [])).1 (Nat.le_of_eq g12.symm)
      have K12 : Keep h0 h12 [] := ((Keep.refl h0 [])).ext E12
      have F12_coder : Fld Z h12 b12 "java/lang/String" "coder" "B" (.int (0 : Int32)) := D12 (Or.inr (hw _ (List.mem_of_getElem? (i := 33) rfl))) (ty := .byte) (by decide)
      have F12_value : Fld Z h12 b12 "java/lang/String" "value" "[B" .null := D12 (Or.inr (hw _ (List.mem_of_getElem? (i := 35) rfl))) (ty := (.array .byte)) (by decide)
      have f13 := (V_a2.ext E12)
      obtain ⟨T14, h14, k14, X14, e14, E14, A14, st14⟩ := newP X12 hx hZ (hw _ (List.mem_of_getElem? (i := 1) rfl)) e12 (g := (mkF m 25 #[.val (.int p1), .val (.ref a2)] [(.int (1 : Int32)), (.ref b12), (.ref b12)])) rfl (hb hby d1_25) rfl (by decide) (cap := 1) (by decide) (by decide) (by decide) (by decide)
      obtain ⟨b14, g14⟩ : ∃ z, z = h12.size := ⟨_, rfl⟩
      rw [← g14] at A14 st14
      have ne_a2_b14 : a2 ≠ b14 := Nat.ne_of_lt (Nat.lt_of_lt_of_le f13.lt (Nat.le_of_eq g14.symm))
      have ne_b12_b14 : b12 ≠ b14 := Nat.ne_of_lt (Nat.lt_of_lt_of_le A12.lt (Nat.le_of_eq g14.symm))
      have V_b14 : Arv Z h14 b14 k14 .char (1 : Int32) [(.int (0 : Int32))] (.int (0 : Int32)) := (Arv.new A14 (by decide)).pad (pad_rep [] (.int (0 : Int32)) 1)
      have g_b14 : n0 ≤ b14 := Nat.le_trans (Nat.le_trans Z0 K12.1) (Nat.le_of_eq g14.symm)
      have sz_b14 : h0.size ≤ b14 := Nat.le_trans (K12).1 (Nat.le_of_eq g14.symm)
      have K14 : Keep h0 h14 [] := (K12).ext E14
      have f15 := (f13.ext E14)
      obtain ⟨cl16, Ar16, q16, S16, N16_, H16, G16⟩ := id f15
      obtain ⟨cl17, Ar17, q17, S17, N17_, H17, G17⟩ := id V_b14
      obtain ⟨T17, h17, X17, e17, W17, st17⟩ := stC X14 hx hZ e14 Ar17 (j := (0 : Int32)) (inb_of S17 ⟨by decide, by decide⟩) (g := (mkF m 32 #[.val (.int p1), .val (.ref a2)] [(.int c0), (.int (0 : Int32)), (.ref b14), (.ref b14), (.ref b12), (.ref b12)])) rfl rfl (hb hby d1_32)
      have V17 := Arv.set Ar17 q17 S17 N17_ H17 G17 (fits_nar_char _) W17 0 rfl (Nat.le_of_ble_eq_true rfl)
      have K17 : Keep h0 h17 [] := (K14).wr W17 (Or.inr sz_b14)
      have N17 := Fr.snoc X17 N0 g_b14
      have f18 := (Exa.wr W17 (Exa.ext E14 A12))
      have f19 := (Fld.other W17 (Fld.ext E14 F12_value) (Or.inl ne_b12_b14))
      have f20 := (Fld.other W17 (Fld.ext E14 F12_coder) (Or.inl ne_b12_b14))
      have V21 : Arv Z h17 b14 k14 .char (1 : Int32) (([c0] : List Int32).map Value.int) (.int (0 : Int32)) := by have q := V17; simp only [own_narc hbn.1] at q; exact q
      have hbb : ∀ c ∈ ([c0] : List Int32), ¬ c < 0 ∧ ¬ (255 : Int32) < c := by intro c hc; simp only [List.mem_cons, List.not_mem_nil, or_false] at hc; rcases hc with hc <;> (subst hc; first | exact hbn.1 | exact hbn.2.1 | exact hbn.2.2.1 | exact hbn.2.2.2.1 | exact hbn.2.2.2.2.1 | exact hbn.2.2.2.2.2.1 | exact hbn.2.2.2.2.2.2.1 | exact hbn.2.2.2.2.2.2.2.1 | exact hbn.2.2.2.2.2.2.2.2)
      have hws : ∀ d ∈ StrChars.Road.words, d.before a0 Z = true := fun d hd => hw d ((by decide +kernel : ∀ d ∈ StrChars.Road.words, d ∈ tables_1) d hd)
      obtain ⟨_, _, ⟨T22, L22, k22, n22⟩, -, X22, ⟨Lc22, hQ22, l22, y22, z22⟩, st22⟩ := X17.specialBack hx (y := (⟨"java/lang/String", "<init>", "([C)V"⟩ : MethodName)) rfl hown (mvT hZ (hw _ (List.mem_of_getElem? (i := 10) rfl))) (mvT hZ (hw _ (List.mem_of_getElem? (i := 11) rfl))) (mvT hZ (hw _ (List.mem_of_getElem? (i := 12) rfl))) (by decide) (StrChars.Road.backV (W := 1) hZ hws (kI := 4) (hw _ (List.mem_of_getElem? (i := 8) rfl)) (cs := [c0]) (bs := ([c0] : List Int32).map (fun c => c.toInt8.toInt32)) (n := 1) g_b12 (Nat.le_trans Z0 K17.1) f18 f19 f20 V21 (Sta.ext (own_keep_ext K17) S_C) hzc rfl rfl (by decide) (by decide) hbb rfl (by decide) (by decide)) (g := (mkF m 33 #[.val (.int p1), .val (.ref a2)] [(.ref b14), (.ref b12), (.ref b12)])) rfl (by rw [hml]; rfl) (Steps.refl _) (a := b12) (argsL := [(.ref b14)]) (rest := [(.ref b12)]) (lenOf pd_rmT_0 rfl) rfl (by show 2 * 0 + _ ≤ _; exact Nat.le_of_eq rfl) (hb hby d1_33) (fun _ _ => ⟨rfl, e17, (by decide : 2 + 1 ≤ _), (by decide : 5 + 1 ≤ _)⟩)
      dsimp only [Pt.U, Pt.locs, Pt.cells, Pt.slots] at X22 l22 y22 z22 st22 hQ22
      subst l22 y22 z22
      obtain ⟨rfl, N22q, K22q, A22q, C22q, t22, k22_, g221, g222, g223, F22q, B22q⟩ := hQ22
      have N22 := Fr.app N17 N22q
      have K22 : Keep h0 T22.heap [] := (K17).trans K22q (allS (Or.inr sz_b12) all0)
      obtain ⟨fs, hr, hrun, hended, hRW⟩ := Jvm.Stand.leaveW (s := s) (vm₁ := s.vm) X22 hS0 (show _ ≤ T22.heap.size by exact (Nat.le_trans (Nat.le_trans (Nat.le_trans (Nat.le_trans (Nat.zero_le _) (E12).1) (E14).1) (Keep.of_wr W17).1) (K22q).1)) (v := some (.ref b12)) (fun h => by rw [Bd.returns] at h; cases h)
      refine ⟨_, _, pre10 _ ?_, hrun, hended, _, _, rfl, ?_, hRW.1, hRW.2.1, hRW.2.2.1, hRW.2.2.2.mono (by decide) (by decide)⟩
      · show Steps p.tables e below (s₁.setTop (mkF m 17 #[.val (.int p1), .val (.ref a2)] [(.int (1 : Int32)), (.int p1)])) _
        refine XS.icmpNo X0.here hx rfl (hb hby d1_17) rfl (teq hc11).2 ?_
        show Steps p.tables e below (s₁.setTop (mkF m 20 #[.val (.int p1), .val (.ref a2)] [])) _
        refine st12 _ ?_
        show Steps p.tables e below (T12.setTop (mkF m 23 #[.val (.int p1), .val (.ref a2)] [(.ref b12)])) _
        refine XS.dup X12.here hx rfl (hb hby d1_23) rfl rfl ?_
        show Steps p.tables e below (T12.setTop (mkF m 24 #[.val (.int p1), .val (.ref a2)] [(.ref b12), (.ref b12)])) _
        refine XS.iconst X12.here hx rfl (hb hby d1_24) ?_
        show Steps p.tables e below (T12.setTop (mkF m 25 #[.val (.int p1), .val (.ref a2)] [(.int (1 : Int32)), (.ref b12), (.ref b12)])) _
        refine st14 _ ?_
        show Steps p.tables e below (T14.setTop (mkF m 27 #[.val (.int p1), .val (.ref a2)] [(.ref b14), (.ref b12), (.ref b12)])) _
        refine XS.dup X14.here hx rfl (hb hby d1_27) rfl rfl ?_
        show Steps p.tables e below (T14.setTop (mkF m 28 #[.val (.int p1), .val (.ref a2)] [(.ref b14), (.ref b14), (.ref b12), (.ref b12)])) _
        refine XS.iconst X14.here hx rfl (hb hby d1_28) ?_
        show Steps p.tables e below (T14.setTop (mkF m 29 #[.val (.int p1), .val (.ref a2)] [(.int (0 : Int32)), (.ref b14), (.ref b14), (.ref b12), (.ref b12)])) _
        refine XS.aloadN X14.here hx rfl (hb hby d1_29) rfl rfl ?_
        show Steps p.tables e below (T14.setTop (mkF m 30 #[.val (.int p1), .val (.ref a2)] [(.ref a2), (.int (0 : Int32)), (.ref b14), (.ref b14), (.ref b12), (.ref b12)])) _
        refine XS.iconst X14.here hx rfl (hb hby d1_30) ?_
        show Steps p.tables e below (T14.setTop (mkF m 31 #[.val (.int p1), .val (.ref a2)] [(.int (0 : Int32)), (.ref a2), (.int (0 : Int32)), (.ref b14), (.ref b14), (.ref b12), (.ref b12)])) _
        refine X14.caload hx (j := (0 : Int32)) (v := (.int c0)) (by rw [e14]; exact Ar16.1) (State.isArrayOf_alike hZ.alike Ar16.2.1) Ar16.2.2 (inb_of S16 ⟨by decide, by decide⟩) (show cl16.slots[((0 : Int32)).toNatClampNeg]? = some (.int c0) from H16 0 (by rw [S16]; decide)) (g := (mkF m 31 #[.val (.int p1), .val (.ref a2)] [(.int (0 : Int32)), (.ref a2), (.int (0 : Int32)), (.ref b14), (.ref b14), (.ref b12), (.ref b12)])) rfl rfl (hb hby d1_31) _ ?_
        show Steps p.tables e below (T14.setTop (mkF m 32 #[.val (.int p1), .val (.ref a2)] [(.int c0), (.int (0 : Int32)), (.ref b14), (.ref b14), (.ref b12), (.ref b12)])) _
        refine st17 _ ?_
        show Steps p.tables e below (T17.setTop (mkF m 33 #[.val (.int p1), .val (.ref a2)] [(.ref b14), (.ref b12), (.ref b12)])) _
        refine st22.trans ?_
        show Steps p.tables e below (T22.setTop (mkF m 36 #[.val (.int p1), .val (.ref a2)] [(.ref b12)])) _
        jvm_step X22.here [X22.here.top, hx, (hb hby d1_36), X22.method', Bd.returns, Value.isRef, FieldType.isReference]
        first | (intro acts; rw [hr _ acts rfl rfl rfl]) | rw [hr _ _ rfl rfl rfl]
        exact Steps.refl _
      · show Q_rmT Z p1 a2 kd zc c0 c1 c2 c3 c4 c5 c6 c7 c8 h0 n0 _ T22.heap T22.vm _
        exact ⟨b12, t22, k22_, [c0], (1 : Int32), _, rfl, N22, K22, A22q, F22q, C22q, B22q, StrChars.Road.codOf (cs := [c0]) (n := 1) rfl (fun c hc => (hbb c hc).2), own_up hbb, (by show 1 ≤ 4000; decide), own_ib (X22.warmed.interned_eq.trans hin0)⟩
    · have pre23 : ∀ t, Steps p.tables e below (s₁.setTop (mkF m 39 #[.val (.int p1), .val (.ref a2)] [(.int (2 : Int32)), (.int p1)])) t → Steps p.tables e below (s₁.setTop (entryFrame m #[(.int p1), (.ref a2)] 2)) t := fun t k => pre10 t (by
          show Steps p.tables e below (s₁.setTop (mkF m 17 #[.val (.int p1), .val (.ref a2)] [(.int (1 : Int32)), (.int p1)])) _
          refine XS.icmpYes X0.here hx rfl (pc0 := 17) (pc' := 37) rfl (hb hby d1_17) rfl (feq hc11).2 (by decide) (by decide) ?_
          show Steps p.tables e below (s₁.setTop (mkF m 37 #[.val (.int p1), .val (.ref a2)] [])) _
          refine XS.iloadN X0.here hx rfl (hb hby d1_37) rfl ?_
          show Steps p.tables e below (s₁.setTop (mkF m 38 #[.val (.int p1), .val (.ref a2)] [(.int p1)])) _
          refine XS.iconst X0.here hx rfl (hb hby d1_38) ?_
          exact k)
      by_cases hc24 : p1 = (2 : Int32)
      · obtain ⟨T25, h25, X25, e25, E25, A25, D25, -, st25⟩ := newO X0 hx hZ hown (hw _ (List.mem_of_getElem? (i := 7) rfl)) (hw _ (List.mem_of_getElem? (i := 8) rfl)) (hw _ (List.mem_of_getElem? (i := 9) rfl)) e0 (g := (mkF m 42 #[.val (.int p1), .val (.ref a2)] [])) rfl (hb hby d1_42) (by decide) (by decide)
        obtain ⟨b25, g25⟩ : ∃ z, z = h0.size := ⟨_, rfl⟩
        rw [← g25] at A25 D25 st25
        have ne_a2_b25 : a2 ≠ b25 := Nat.ne_of_lt (Nat.lt_of_lt_of_le V_a2.lt (Nat.le_of_eq g25.symm))
        have g_b25 : n0 ≤ b25 := Nat.le_trans Z0 (Nat.le_of_eq g25.symm)
        have sz_b25 : h0.size ≤ b25 := Nat.le_trans ((Keep.refl h0 [])).1 (Nat.le_of_eq g25.symm)
        have K25 : Keep h0 h25 [] := ((Keep.refl h0 [])).ext E25
        have F25_coder : Fld Z h25 b25 "java/lang/String" "coder" "B" (.int (0 : Int32)) := D25 (Or.inr (hw _ (List.mem_of_getElem? (i := 33) rfl))) (ty := .byte) (by decide)
        have F25_value : Fld Z h25 b25 "java/lang/String" "value" "[B" .null := D25 (Or.inr (hw _ (List.mem_of_getElem? (i := 35) rfl))) (ty := (.array .byte)) (by decide)
        have f26 := (V_a2.ext E25)
        obtain ⟨T27, h27, k27, X27, e27, E27, A27, st27⟩ := newP X25 hx hZ (hw _ (List.mem_of_getElem? (i := 1) rfl)) e25 (g := (mkF m 47 #[.val (.int p1), .val (.ref a2)] [(.int (2 : Int32)), (.ref b25), (.ref b25)])) rfl (hb hby d1_47) rfl (by decide) (cap := 2) (by decide) (by decide) (by decide) (by decide)
        obtain ⟨b27, g27⟩ : ∃ z, z = h25.size := ⟨_, rfl⟩
        rw [← g27] at A27 st27
        have ne_a2_b27 : a2 ≠ b27 := Nat.ne_of_lt (Nat.lt_of_lt_of_le f26.lt (Nat.le_of_eq g27.symm))
        have ne_b25_b27 : b25 ≠ b27 := Nat.ne_of_lt (Nat.lt_of_lt_of_le A25.lt (Nat.le_of_eq g27.symm))
        have V_b27 : Arv Z h27 b27 k27 .char (2 : Int32) [(.int (0 : Int32)), (.int (0 : Int32))] (.int (0 : Int32)) := (Arv.new A27 (by decide)).pad (pad_rep [] (.int (0 : Int32)) 2)
        have g_b27 : n0 ≤ b27 := Nat.le_trans (Nat.le_trans Z0 K25.1) (Nat.le_of_eq g27.symm)
        have sz_b27 : h0.size ≤ b27 := Nat.le_trans (K25).1 (Nat.le_of_eq g27.symm)
        have K27 : Keep h0 h27 [] := (K25).ext E27
        have f28 := (f26.ext E27)
        obtain ⟨cl29, Ar29, q29, S29, N29_, H29, G29⟩ := id f28
        obtain ⟨cl30, Ar30, q30, S30, N30_, H30, G30⟩ := id V_b27
        obtain ⟨T30, h30, X30, e30, W30, st30⟩ := stC X27 hx hZ e27 Ar30 (j := (0 : Int32)) (inb_of S30 ⟨by decide, by decide⟩) (g := (mkF m 54 #[.val (.int p1), .val (.ref a2)] [(.int c0), (.int (0 : Int32)), (.ref b27), (.ref b27), (.ref b25), (.ref b25)])) rfl rfl (hb hby d1_54)
        have V30 := Arv.set Ar30 q30 S30 N30_ H30 G30 (fits_nar_char _) W30 0 rfl (Nat.le_of_ble_eq_true rfl)
        have K30 : Keep h0 h30 [] := (K27).wr W30 (Or.inr sz_b27)
        have N30 := Fr.snoc X30 N0 g_b27
        have f31 := (f28.other W30 ne_a2_b27)
        obtain ⟨cl32, Ar32, q32, S32, N32_, H32, G32⟩ := id f31
        obtain ⟨cl33, Ar33, q33, S33, N33_, H33, G33⟩ := id V30
        obtain ⟨T33, h33, X33, e33, W33, st33⟩ := stC X30 hx hZ e30 Ar33 (j := (1 : Int32)) (inb_of S33 ⟨by decide, by decide⟩) (g := (mkF m 60 #[.val (.int p1), .val (.ref a2)] [(.int c1), (.int (1 : Int32)), (.ref b27), (.ref b27), (.ref b25), (.ref b25)])) rfl rfl (hb hby d1_60)
        have V33 := Arv.set Ar33 q33 S33 N33_ H33 G33 (fits_nar_char _) W33 1 rfl (Nat.le_of_ble_eq_true rfl)
        have K33 : Keep h0 h33 [] := (K30).wr W33 (Or.inr sz_b27)
        have N33 := Fr.snoc X33 N30 g_b27
        have f34 := (Exa.wr W33 (Exa.wr W30 (Exa.ext E27 A25)))
        have f35 := (Fld.other W33 (Fld.other W30 (Fld.ext E27 F25_value) (Or.inl ne_b25_b27)) (Or.inl ne_b25_b27))
        have f36 := (Fld.other W33 (Fld.other W30 (Fld.ext E27 F25_coder) (Or.inl ne_b25_b27)) (Or.inl ne_b25_b27))
        have V37 : Arv Z h33 b27 k27 .char (2 : Int32) (([c0, c1] : List Int32).map Value.int) (.int (0 : Int32)) := by have q := V33; simp only [own_narc hbn.1, own_narc hbn.2.1] at q; exact q
        have hbb : ∀ c ∈ ([c0, c1] : List Int32), ¬ c < 0 ∧ ¬ (255 : Int32) < c := by intro c hc; simp only [List.mem_cons, List.not_mem_nil, or_false] at hc; rcases hc with hc | hc <;> (subst hc; first | exact hbn.1 | exact hbn.2.1 | exact hbn.2.2.1 | exact hbn.2.2.2.1 | exact hbn.2.2.2.2.1 | exact hbn.2.2.2.2.2.1 | exact hbn.2.2.2.2.2.2.1 | exact hbn.2.2.2.2.2.2.2.1 | exact hbn.2.2.2.2.2.2.2.2)
        have hws : ∀ d ∈ StrChars.Road.words, d.before a0 Z = true := fun d hd => hw d ((by decide +kernel : ∀ d ∈ StrChars.Road.words, d ∈ tables_1) d hd)
        obtain ⟨_, _, ⟨T38, L38, k38, n38⟩, -, X38, ⟨Lc38, hQ38, l38, y38, z38⟩, st38⟩ := X33.specialBack hx (y := (⟨"java/lang/String", "<init>", "([C)V"⟩ : MethodName)) rfl hown (mvT hZ (hw _ (List.mem_of_getElem? (i := 10) rfl))) (mvT hZ (hw _ (List.mem_of_getElem? (i := 11) rfl))) (mvT hZ (hw _ (List.mem_of_getElem? (i := 12) rfl))) (by decide) (StrChars.Road.backV (W := 1) hZ hws (kI := 4) (hw _ (List.mem_of_getElem? (i := 8) rfl)) (cs := [c0, c1]) (bs := ([c0, c1] : List Int32).map (fun c => c.toInt8.toInt32)) (n := 2) g_b25 (Nat.le_trans Z0 K33.1) f34 f35 f36 V37 (Sta.ext (own_keep_ext K33) S_C) hzc rfl rfl (by decide) (by decide) hbb rfl (by decide) (by decide)) (g := (mkF m 61 #[.val (.int p1), .val (.ref a2)] [(.ref b27), (.ref b25), (.ref b25)])) rfl (by rw [hml]; rfl) (Steps.refl _) (a := b25) (argsL := [(.ref b27)]) (rest := [(.ref b25)]) (lenOf pd_rmT_0 rfl) rfl (by show 2 * 0 + _ ≤ _; exact Nat.le_of_eq rfl) (hb hby d1_61) (fun _ _ => ⟨rfl, e33, (by decide : 2 + 1 ≤ _), (by decide : 6 + 2 ≤ _)⟩)
        dsimp only [Pt.U, Pt.locs, Pt.cells, Pt.slots] at X38 l38 y38 z38 st38 hQ38
        subst l38 y38 z38
        obtain ⟨rfl, N38q, K38q, A38q, C38q, t38, k38_, g381, g382, g383, F38q, B38q⟩ := hQ38
        have N38 := Fr.app N33 N38q
        have K38 : Keep h0 T38.heap [] := (K33).trans K38q (allS (Or.inr sz_b25) all0)
        obtain ⟨fs, hr, hrun, hended, hRW⟩ := Jvm.Stand.leaveW (s := s) (vm₁ := s.vm) X38 hS0 (show _ ≤ T38.heap.size by exact (Nat.le_trans (Nat.le_trans (Nat.le_trans (Nat.le_trans (Nat.le_trans (Nat.zero_le _) (E25).1) (E27).1) (Keep.of_wr W30).1) (Keep.of_wr W33).1) (K38q).1)) (v := some (.ref b25)) (fun h => by rw [Bd.returns] at h; cases h)
        refine ⟨_, _, pre23 _ ?_, hrun, hended, _, _, rfl, ?_, hRW.1, hRW.2.1, hRW.2.2.1, hRW.2.2.2.mono (by decide) (by decide)⟩
        · show Steps p.tables e below (s₁.setTop (mkF m 39 #[.val (.int p1), .val (.ref a2)] [(.int (2 : Int32)), (.int p1)])) _
          refine XS.icmpNo X0.here hx rfl (hb hby d1_39) rfl (teq hc24).2 ?_
          show Steps p.tables e below (s₁.setTop (mkF m 42 #[.val (.int p1), .val (.ref a2)] [])) _
          refine st25 _ ?_
          show Steps p.tables e below (T25.setTop (mkF m 45 #[.val (.int p1), .val (.ref a2)] [(.ref b25)])) _
          refine XS.dup X25.here hx rfl (hb hby d1_45) rfl rfl ?_
          show Steps p.tables e below (T25.setTop (mkF m 46 #[.val (.int p1), .val (.ref a2)] [(.ref b25), (.ref b25)])) _
          refine XS.iconst X25.here hx rfl (hb hby d1_46) ?_
          show Steps p.tables e below (T25.setTop (mkF m 47 #[.val (.int p1), .val (.ref a2)] [(.int (2 : Int32)), (.ref b25), (.ref b25)])) _
          refine st27 _ ?_
          show Steps p.tables e below (T27.setTop (mkF m 49 #[.val (.int p1), .val (.ref a2)] [(.ref b27), (.ref b25), (.ref b25)])) _
          refine XS.dup X27.here hx rfl (hb hby d1_49) rfl rfl ?_
          show Steps p.tables e below (T27.setTop (mkF m 50 #[.val (.int p1), .val (.ref a2)] [(.ref b27), (.ref b27), (.ref b25), (.ref b25)])) _
          refine XS.iconst X27.here hx rfl (hb hby d1_50) ?_
          show Steps p.tables e below (T27.setTop (mkF m 51 #[.val (.int p1), .val (.ref a2)] [(.int (0 : Int32)), (.ref b27), (.ref b27), (.ref b25), (.ref b25)])) _
          refine XS.aloadN X27.here hx rfl (hb hby d1_51) rfl rfl ?_
          show Steps p.tables e below (T27.setTop (mkF m 52 #[.val (.int p1), .val (.ref a2)] [(.ref a2), (.int (0 : Int32)), (.ref b27), (.ref b27), (.ref b25), (.ref b25)])) _
          refine XS.iconst X27.here hx rfl (hb hby d1_52) ?_
          show Steps p.tables e below (T27.setTop (mkF m 53 #[.val (.int p1), .val (.ref a2)] [(.int (0 : Int32)), (.ref a2), (.int (0 : Int32)), (.ref b27), (.ref b27), (.ref b25), (.ref b25)])) _
          refine X27.caload hx (j := (0 : Int32)) (v := (.int c0)) (by rw [e27]; exact Ar29.1) (State.isArrayOf_alike hZ.alike Ar29.2.1) Ar29.2.2 (inb_of S29 ⟨by decide, by decide⟩) (show cl29.slots[((0 : Int32)).toNatClampNeg]? = some (.int c0) from H29 0 (by rw [S29]; decide)) (g := (mkF m 53 #[.val (.int p1), .val (.ref a2)] [(.int (0 : Int32)), (.ref a2), (.int (0 : Int32)), (.ref b27), (.ref b27), (.ref b25), (.ref b25)])) rfl rfl (hb hby d1_53) _ ?_
          show Steps p.tables e below (T27.setTop (mkF m 54 #[.val (.int p1), .val (.ref a2)] [(.int c0), (.int (0 : Int32)), (.ref b27), (.ref b27), (.ref b25), (.ref b25)])) _
          refine st30 _ ?_
          show Steps p.tables e below (T30.setTop (mkF m 55 #[.val (.int p1), .val (.ref a2)] [(.ref b27), (.ref b25), (.ref b25)])) _
          refine XS.dup X30.here hx rfl (hb hby d1_55) rfl rfl ?_
          show Steps p.tables e below (T30.setTop (mkF m 56 #[.val (.int p1), .val (.ref a2)] [(.ref b27), (.ref b27), (.ref b25), (.ref b25)])) _
          refine XS.iconst X30.here hx rfl (hb hby d1_56) ?_
          show Steps p.tables e below (T30.setTop (mkF m 57 #[.val (.int p1), .val (.ref a2)] [(.int (1 : Int32)), (.ref b27), (.ref b27), (.ref b25), (.ref b25)])) _
          refine XS.aloadN X30.here hx rfl (hb hby d1_57) rfl rfl ?_
          show Steps p.tables e below (T30.setTop (mkF m 58 #[.val (.int p1), .val (.ref a2)] [(.ref a2), (.int (1 : Int32)), (.ref b27), (.ref b27), (.ref b25), (.ref b25)])) _
          refine XS.iconst X30.here hx rfl (hb hby d1_58) ?_
          show Steps p.tables e below (T30.setTop (mkF m 59 #[.val (.int p1), .val (.ref a2)] [(.int (1 : Int32)), (.ref a2), (.int (1 : Int32)), (.ref b27), (.ref b27), (.ref b25), (.ref b25)])) _
          refine X30.caload hx (j := (1 : Int32)) (v := (.int c1)) (by rw [e30]; exact Ar32.1) (State.isArrayOf_alike hZ.alike Ar32.2.1) Ar32.2.2 (inb_of S32 ⟨by decide, by decide⟩) (show cl32.slots[((1 : Int32)).toNatClampNeg]? = some (.int c1) from H32 1 (by rw [S32]; decide)) (g := (mkF m 59 #[.val (.int p1), .val (.ref a2)] [(.int (1 : Int32)), (.ref a2), (.int (1 : Int32)), (.ref b27), (.ref b27), (.ref b25), (.ref b25)])) rfl rfl (hb hby d1_59) _ ?_
          show Steps p.tables e below (T30.setTop (mkF m 60 #[.val (.int p1), .val (.ref a2)] [(.int c1), (.int (1 : Int32)), (.ref b27), (.ref b27), (.ref b25), (.ref b25)])) _
          refine st33 _ ?_
          show Steps p.tables e below (T33.setTop (mkF m 61 #[.val (.int p1), .val (.ref a2)] [(.ref b27), (.ref b25), (.ref b25)])) _
          refine st38.trans ?_
          show Steps p.tables e below (T38.setTop (mkF m 64 #[.val (.int p1), .val (.ref a2)] [(.ref b25)])) _
          jvm_step X38.here [X38.here.top, hx, (hb hby d1_64), X38.method', Bd.returns, Value.isRef, FieldType.isReference]
          first | (intro acts; rw [hr _ acts rfl rfl rfl]) | rw [hr _ _ rfl rfl rfl]
          exact Steps.refl _
        · show Q_rmT Z p1 a2 kd zc c0 c1 c2 c3 c4 c5 c6 c7 c8 h0 n0 _ T38.heap T38.vm _
          exact ⟨b25, t38, k38_, [c0, c1], (2 : Int32), _, rfl, N38, K38, A38q, F38q, C38q, B38q, StrChars.Road.codOf (cs := [c0, c1]) (n := 2) rfl (fun c hc => (hbb c hc).2), own_up hbb, (by show 2 ≤ 4000; decide), own_ib (X38.warmed.interned_eq.trans hin0)⟩
      · have pre39 : ∀ t, Steps p.tables e below (s₁.setTop (mkF m 67 #[.val (.int p1), .val (.ref a2)] [(.int (3 : Int32)), (.int p1)])) t → Steps p.tables e below (s₁.setTop (entryFrame m #[(.int p1), (.ref a2)] 2)) t := fun t k => pre23 t (by
            show Steps p.tables e below (s₁.setTop (mkF m 39 #[.val (.int p1), .val (.ref a2)] [(.int (2 : Int32)), (.int p1)])) _
            refine XS.icmpYes X0.here hx rfl (pc0 := 39) (pc' := 65) rfl (hb hby d1_39) rfl (feq hc24).2 (by decide) (by decide) ?_
            show Steps p.tables e below (s₁.setTop (mkF m 65 #[.val (.int p1), .val (.ref a2)] [])) _
            refine XS.iloadN X0.here hx rfl (hb hby d1_65) rfl ?_
            show Steps p.tables e below (s₁.setTop (mkF m 66 #[.val (.int p1), .val (.ref a2)] [(.int p1)])) _
            refine XS.iconst X0.here hx rfl (hb hby d1_66) ?_
            exact k)
        by_cases hc40 : p1 = (3 : Int32)
        · obtain ⟨T41, h41, X41, e41, E41, A41, D41, -, st41⟩ := newO X0 hx hZ hown (hw _ (List.mem_of_getElem? (i := 7) rfl)) (hw _ (List.mem_of_getElem? (i := 8) rfl)) (hw _ (List.mem_of_getElem? (i := 9) rfl)) e0 (g := (mkF m 70 #[.val (.int p1), .val (.ref a2)] [])) rfl (hb hby d1_70) (by decide) (by decide)
          obtain ⟨b41, g41⟩ : ∃ z, z = h0.size := ⟨_, rfl⟩
          rw [← g41] at A41 D41 st41
          have ne_a2_b41 : a2 ≠ b41 := Nat.ne_of_lt (Nat.lt_of_lt_of_le V_a2.lt (Nat.le_of_eq g41.symm))
          have g_b41 : n0 ≤ b41 := Nat.le_trans Z0 (Nat.le_of_eq g41.symm)
          have sz_b41 : h0.size ≤ b41 := Nat.le_trans ((Keep.refl h0 [])).1 (Nat.le_of_eq g41.symm)
          have K41 : Keep h0 h41 [] := ((Keep.refl h0 [])).ext E41
          have F41_coder : Fld Z h41 b41 "java/lang/String" "coder" "B" (.int (0 : Int32)) := D41 (Or.inr (hw _ (List.mem_of_getElem? (i := 33) rfl))) (ty := .byte) (by decide)
          have F41_value : Fld Z h41 b41 "java/lang/String" "value" "[B" .null := D41 (Or.inr (hw _ (List.mem_of_getElem? (i := 35) rfl))) (ty := (.array .byte)) (by decide)
          have f42 := (V_a2.ext E41)
          obtain ⟨T43, h43, k43, X43, e43, E43, A43, st43⟩ := newP X41 hx hZ (hw _ (List.mem_of_getElem? (i := 1) rfl)) e41 (g := (mkF m 75 #[.val (.int p1), .val (.ref a2)] [(.int (3 : Int32)), (.ref b41), (.ref b41)])) rfl (hb hby d1_75) rfl (by decide) (cap := 3) (by decide) (by decide) (by decide) (by decide)
          obtain ⟨b43, g43⟩ : ∃ z, z = h41.size := ⟨_, rfl⟩
          rw [← g43] at A43 st43
          have ne_a2_b43 : a2 ≠ b43 := Nat.ne_of_lt (Nat.lt_of_lt_of_le f42.lt (Nat.le_of_eq g43.symm))
          have ne_b41_b43 : b41 ≠ b43 := Nat.ne_of_lt (Nat.lt_of_lt_of_le A41.lt (Nat.le_of_eq g43.symm))
          have V_b43 : Arv Z h43 b43 k43 .char (3 : Int32) [(.int (0 : Int32)), (.int (0 : Int32)), (.int (0 : Int32))] (.int (0 : Int32)) := (Arv.new A43 (by decide)).pad (pad_rep [] (.int (0 : Int32)) 3)
          have g_b43 : n0 ≤ b43 := Nat.le_trans (Nat.le_trans Z0 K41.1) (Nat.le_of_eq g43.symm)
          have sz_b43 : h0.size ≤ b43 := Nat.le_trans (K41).1 (Nat.le_of_eq g43.symm)
          have K43 : Keep h0 h43 [] := (K41).ext E43
          have f44 := (f42.ext E43)
          obtain ⟨cl45, Ar45, q45, S45, N45_, H45, G45⟩ := id f44
          obtain ⟨cl46, Ar46, q46, S46, N46_, H46, G46⟩ := id V_b43
          obtain ⟨T46, h46, X46, e46, W46, st46⟩ := stC X43 hx hZ e43 Ar46 (j := (0 : Int32)) (inb_of S46 ⟨by decide, by decide⟩) (g := (mkF m 82 #[.val (.int p1), .val (.ref a2)] [(.int c0), (.int (0 : Int32)), (.ref b43), (.ref b43), (.ref b41), (.ref b41)])) rfl rfl (hb hby d1_82)
          have V46 := Arv.set Ar46 q46 S46 N46_ H46 G46 (fits_nar_char _) W46 0 rfl (Nat.le_of_ble_eq_true rfl)
          have K46 : Keep h0 h46 [] := (K43).wr W46 (Or.inr sz_b43)
          have N46 := Fr.snoc X46 N0 g_b43
          have f47 := (f44.other W46 ne_a2_b43)
          obtain ⟨cl48, Ar48, q48, S48, N48_, H48, G48⟩ := id f47
          obtain ⟨cl49, Ar49, q49, S49, N49_, H49, G49⟩ := id V46
          obtain ⟨T49, h49, X49, e49, W49, st49⟩ := stC X46 hx hZ e46 Ar49 (j := (1 : Int32)) (inb_of S49 ⟨by decide, by decide⟩) (g := (mkF m 88 #[.val (.int p1), .val (.ref a2)] [(.int c1), (.int (1 : Int32)), (.ref b43), (.ref b43), (.ref b41), (.ref b41)])) rfl rfl (hb hby d1_88)
          have V49 := Arv.set Ar49 q49 S49 N49_ H49 G49 (fits_nar_char _) W49 1 rfl (Nat.le_of_ble_eq_true rfl)
          have K49 : Keep h0 h49 [] := (K46).wr W49 (Or.inr sz_b43)
          have N49 := Fr.snoc X49 N46 g_b43
          have f50 := (f47.other W49 ne_a2_b43)
          obtain ⟨cl51, Ar51, q51, S51, N51_, H51, G51⟩ := id f50
          obtain ⟨cl52, Ar52, q52, S52, N52_, H52, G52⟩ := id V49
          obtain ⟨T52, h52, X52, e52, W52, st52⟩ := stC X49 hx hZ e49 Ar52 (j := (2 : Int32)) (inb_of S52 ⟨by decide, by decide⟩) (g := (mkF m 94 #[.val (.int p1), .val (.ref a2)] [(.int c2), (.int (2 : Int32)), (.ref b43), (.ref b43), (.ref b41), (.ref b41)])) rfl rfl (hb hby d1_94)
          have V52 := Arv.set Ar52 q52 S52 N52_ H52 G52 (fits_nar_char _) W52 2 rfl (Nat.le_of_ble_eq_true rfl)
          have K52 : Keep h0 h52 [] := (K49).wr W52 (Or.inr sz_b43)
          have N52 := Fr.snoc X52 N49 g_b43
          have f53 := (Exa.wr W52 (Exa.wr W49 (Exa.wr W46 (Exa.ext E43 A41))))
          have f54 := (Fld.other W52 (Fld.other W49 (Fld.other W46 (Fld.ext E43 F41_value) (Or.inl ne_b41_b43)) (Or.inl ne_b41_b43)) (Or.inl ne_b41_b43))
          have f55 := (Fld.other W52 (Fld.other W49 (Fld.other W46 (Fld.ext E43 F41_coder) (Or.inl ne_b41_b43)) (Or.inl ne_b41_b43)) (Or.inl ne_b41_b43))
          have V56 : Arv Z h52 b43 k43 .char (3 : Int32) (([c0, c1, c2] : List Int32).map Value.int) (.int (0 : Int32)) := by have q := V52; simp only [own_narc hbn.1, own_narc hbn.2.1, own_narc hbn.2.2.1] at q; exact q
          have hbb : ∀ c ∈ ([c0, c1, c2] : List Int32), ¬ c < 0 ∧ ¬ (255 : Int32) < c := by intro c hc; simp only [List.mem_cons, List.not_mem_nil, or_false] at hc; rcases hc with hc | hc | hc <;> (subst hc; first | exact hbn.1 | exact hbn.2.1 | exact hbn.2.2.1 | exact hbn.2.2.2.1 | exact hbn.2.2.2.2.1 | exact hbn.2.2.2.2.2.1 | exact hbn.2.2.2.2.2.2.1 | exact hbn.2.2.2.2.2.2.2.1 | exact hbn.2.2.2.2.2.2.2.2)
          have hws : ∀ d ∈ StrChars.Road.words, d.before a0 Z = true := fun d hd => hw d ((by decide +kernel : ∀ d ∈ StrChars.Road.words, d ∈ tables_1) d hd)
          obtain ⟨_, _, ⟨T57, L57, k57, n57⟩, -, X57, ⟨Lc57, hQ57, l57, y57, z57⟩, st57⟩ := X52.specialBack hx (y := (⟨"java/lang/String", "<init>", "([C)V"⟩ : MethodName)) rfl hown (mvT hZ (hw _ (List.mem_of_getElem? (i := 10) rfl))) (mvT hZ (hw _ (List.mem_of_getElem? (i := 11) rfl))) (mvT hZ (hw _ (List.mem_of_getElem? (i := 12) rfl))) (by decide) (StrChars.Road.backV (W := 1) hZ hws (kI := 4) (hw _ (List.mem_of_getElem? (i := 8) rfl)) (cs := [c0, c1, c2]) (bs := ([c0, c1, c2] : List Int32).map (fun c => c.toInt8.toInt32)) (n := 3) g_b41 (Nat.le_trans Z0 K52.1) f53 f54 f55 V56 (Sta.ext (own_keep_ext K52) S_C) hzc rfl rfl (by decide) (by decide) hbb rfl (by decide) (by decide)) (g := (mkF m 95 #[.val (.int p1), .val (.ref a2)] [(.ref b43), (.ref b41), (.ref b41)])) rfl (by rw [hml]; rfl) (Steps.refl _) (a := b41) (argsL := [(.ref b43)]) (rest := [(.ref b41)]) (lenOf pd_rmT_0 rfl) rfl (by show 2 * 0 + _ ≤ _; exact Nat.le_of_eq rfl) (hb hby d1_95) (fun _ _ => ⟨rfl, e52, (by decide : 2 + 1 ≤ _), (by decide : 7 + 3 ≤ _)⟩)
          dsimp only [Pt.U, Pt.locs, Pt.cells, Pt.slots] at X57 l57 y57 z57 st57 hQ57
          subst l57 y57 z57
          obtain ⟨rfl, N57q, K57q, A57q, C57q, t57, k57_, g571, g572, g573, F57q, B57q⟩ := hQ57
          have N57 := Fr.app N52 N57q
          have K57 : Keep h0 T57.heap [] := (K52).trans K57q (allS (Or.inr sz_b41) all0)
          obtain ⟨fs, hr, hrun, hended, hRW⟩ := Jvm.Stand.leaveW (s := s) (vm₁ := s.vm) X57 hS0 (show _ ≤ T57.heap.size by exact (Nat.le_trans (Nat.le_trans (Nat.le_trans (Nat.le_trans (Nat.le_trans (Nat.le_trans (Nat.zero_le _) (E41).1) (E43).1) (Keep.of_wr W46).1) (Keep.of_wr W49).1) (Keep.of_wr W52).1) (K57q).1)) (v := some (.ref b41)) (fun h => by rw [Bd.returns] at h; cases h)
          refine ⟨_, _, pre39 _ ?_, hrun, hended, _, _, rfl, ?_, hRW.1, hRW.2.1, hRW.2.2.1, hRW.2.2.2.mono (by decide) (by decide)⟩
          · show Steps p.tables e below (s₁.setTop (mkF m 67 #[.val (.int p1), .val (.ref a2)] [(.int (3 : Int32)), (.int p1)])) _
            refine XS.icmpNo X0.here hx rfl (hb hby d1_67) rfl (teq hc40).2 ?_
            show Steps p.tables e below (s₁.setTop (mkF m 70 #[.val (.int p1), .val (.ref a2)] [])) _
            refine st41 _ ?_
            show Steps p.tables e below (T41.setTop (mkF m 73 #[.val (.int p1), .val (.ref a2)] [(.ref b41)])) _
            refine XS.dup X41.here hx rfl (hb hby d1_73) rfl rfl ?_
            show Steps p.tables e below (T41.setTop (mkF m 74 #[.val (.int p1), .val (.ref a2)] [(.ref b41), (.ref b41)])) _
            refine XS.iconst X41.here hx rfl (hb hby d1_74) ?_
            show Steps p.tables e below (T41.setTop (mkF m 75 #[.val (.int p1), .val (.ref a2)] [(.int (3 : Int32)), (.ref b41), (.ref b41)])) _
            refine st43 _ ?_
            show Steps p.tables e below (T43.setTop (mkF m 77 #[.val (.int p1), .val (.ref a2)] [(.ref b43), (.ref b41), (.ref b41)])) _
            refine XS.dup X43.here hx rfl (hb hby d1_77) rfl rfl ?_
            show Steps p.tables e below (T43.setTop (mkF m 78 #[.val (.int p1), .val (.ref a2)] [(.ref b43), (.ref b43), (.ref b41), (.ref b41)])) _
            refine XS.iconst X43.here hx rfl (hb hby d1_78) ?_
            show Steps p.tables e below (T43.setTop (mkF m 79 #[.val (.int p1), .val (.ref a2)] [(.int (0 : Int32)), (.ref b43), (.ref b43), (.ref b41), (.ref b41)])) _
            refine XS.aloadN X43.here hx rfl (hb hby d1_79) rfl rfl ?_
            show Steps p.tables e below (T43.setTop (mkF m 80 #[.val (.int p1), .val (.ref a2)] [(.ref a2), (.int (0 : Int32)), (.ref b43), (.ref b43), (.ref b41), (.ref b41)])) _
            refine XS.iconst X43.here hx rfl (hb hby d1_80) ?_
            show Steps p.tables e below (T43.setTop (mkF m 81 #[.val (.int p1), .val (.ref a2)] [(.int (0 : Int32)), (.ref a2), (.int (0 : Int32)), (.ref b43), (.ref b43), (.ref b41), (.ref b41)])) _
            refine X43.caload hx (j := (0 : Int32)) (v := (.int c0)) (by rw [e43]; exact Ar45.1) (State.isArrayOf_alike hZ.alike Ar45.2.1) Ar45.2.2 (inb_of S45 ⟨by decide, by decide⟩) (show cl45.slots[((0 : Int32)).toNatClampNeg]? = some (.int c0) from H45 0 (by rw [S45]; decide)) (g := (mkF m 81 #[.val (.int p1), .val (.ref a2)] [(.int (0 : Int32)), (.ref a2), (.int (0 : Int32)), (.ref b43), (.ref b43), (.ref b41), (.ref b41)])) rfl rfl (hb hby d1_81) _ ?_
            show Steps p.tables e below (T43.setTop (mkF m 82 #[.val (.int p1), .val (.ref a2)] [(.int c0), (.int (0 : Int32)), (.ref b43), (.ref b43), (.ref b41), (.ref b41)])) _
            refine st46 _ ?_
            show Steps p.tables e below (T46.setTop (mkF m 83 #[.val (.int p1), .val (.ref a2)] [(.ref b43), (.ref b41), (.ref b41)])) _
            refine XS.dup X46.here hx rfl (hb hby d1_83) rfl rfl ?_
            show Steps p.tables e below (T46.setTop (mkF m 84 #[.val (.int p1), .val (.ref a2)] [(.ref b43), (.ref b43), (.ref b41), (.ref b41)])) _
            refine XS.iconst X46.here hx rfl (hb hby d1_84) ?_
            show Steps p.tables e below (T46.setTop (mkF m 85 #[.val (.int p1), .val (.ref a2)] [(.int (1 : Int32)), (.ref b43), (.ref b43), (.ref b41), (.ref b41)])) _
            refine XS.aloadN X46.here hx rfl (hb hby d1_85) rfl rfl ?_
            show Steps p.tables e below (T46.setTop (mkF m 86 #[.val (.int p1), .val (.ref a2)] [(.ref a2), (.int (1 : Int32)), (.ref b43), (.ref b43), (.ref b41), (.ref b41)])) _
            refine XS.iconst X46.here hx rfl (hb hby d1_86) ?_
            show Steps p.tables e below (T46.setTop (mkF m 87 #[.val (.int p1), .val (.ref a2)] [(.int (1 : Int32)), (.ref a2), (.int (1 : Int32)), (.ref b43), (.ref b43), (.ref b41), (.ref b41)])) _
            refine X46.caload hx (j := (1 : Int32)) (v := (.int c1)) (by rw [e46]; exact Ar48.1) (State.isArrayOf_alike hZ.alike Ar48.2.1) Ar48.2.2 (inb_of S48 ⟨by decide, by decide⟩) (show cl48.slots[((1 : Int32)).toNatClampNeg]? = some (.int c1) from H48 1 (by rw [S48]; decide)) (g := (mkF m 87 #[.val (.int p1), .val (.ref a2)] [(.int (1 : Int32)), (.ref a2), (.int (1 : Int32)), (.ref b43), (.ref b43), (.ref b41), (.ref b41)])) rfl rfl (hb hby d1_87) _ ?_
            show Steps p.tables e below (T46.setTop (mkF m 88 #[.val (.int p1), .val (.ref a2)] [(.int c1), (.int (1 : Int32)), (.ref b43), (.ref b43), (.ref b41), (.ref b41)])) _
            refine st49 _ ?_
            show Steps p.tables e below (T49.setTop (mkF m 89 #[.val (.int p1), .val (.ref a2)] [(.ref b43), (.ref b41), (.ref b41)])) _
            refine XS.dup X49.here hx rfl (hb hby d1_89) rfl rfl ?_
            show Steps p.tables e below (T49.setTop (mkF m 90 #[.val (.int p1), .val (.ref a2)] [(.ref b43), (.ref b43), (.ref b41), (.ref b41)])) _
            refine XS.iconst X49.here hx rfl (hb hby d1_90) ?_
            show Steps p.tables e below (T49.setTop (mkF m 91 #[.val (.int p1), .val (.ref a2)] [(.int (2 : Int32)), (.ref b43), (.ref b43), (.ref b41), (.ref b41)])) _
            refine XS.aloadN X49.here hx rfl (hb hby d1_91) rfl rfl ?_
            show Steps p.tables e below (T49.setTop (mkF m 92 #[.val (.int p1), .val (.ref a2)] [(.ref a2), (.int (2 : Int32)), (.ref b43), (.ref b43), (.ref b41), (.ref b41)])) _
            refine XS.iconst X49.here hx rfl (hb hby d1_92) ?_
            show Steps p.tables e below (T49.setTop (mkF m 93 #[.val (.int p1), .val (.ref a2)] [(.int (2 : Int32)), (.ref a2), (.int (2 : Int32)), (.ref b43), (.ref b43), (.ref b41), (.ref b41)])) _
            refine X49.caload hx (j := (2 : Int32)) (v := (.int c2)) (by rw [e49]; exact Ar51.1) (State.isArrayOf_alike hZ.alike Ar51.2.1) Ar51.2.2 (inb_of S51 ⟨by decide, by decide⟩) (show cl51.slots[((2 : Int32)).toNatClampNeg]? = some (.int c2) from H51 2 (by rw [S51]; decide)) (g := (mkF m 93 #[.val (.int p1), .val (.ref a2)] [(.int (2 : Int32)), (.ref a2), (.int (2 : Int32)), (.ref b43), (.ref b43), (.ref b41), (.ref b41)])) rfl rfl (hb hby d1_93) _ ?_
            show Steps p.tables e below (T49.setTop (mkF m 94 #[.val (.int p1), .val (.ref a2)] [(.int c2), (.int (2 : Int32)), (.ref b43), (.ref b43), (.ref b41), (.ref b41)])) _
            refine st52 _ ?_
            show Steps p.tables e below (T52.setTop (mkF m 95 #[.val (.int p1), .val (.ref a2)] [(.ref b43), (.ref b41), (.ref b41)])) _
            refine st57.trans ?_
            show Steps p.tables e below (T57.setTop (mkF m 98 #[.val (.int p1), .val (.ref a2)] [(.ref b41)])) _
            jvm_step X57.here [X57.here.top, hx, (hb hby d1_98), X57.method', Bd.returns, Value.isRef, FieldType.isReference]
            first | (intro acts; rw [hr _ acts rfl rfl rfl]) | rw [hr _ _ rfl rfl rfl]
            exact Steps.refl _
          · show Q_rmT Z p1 a2 kd zc c0 c1 c2 c3 c4 c5 c6 c7 c8 h0 n0 _ T57.heap T57.vm _
            exact ⟨b41, t57, k57_, [c0, c1, c2], (3 : Int32), _, rfl, N57, K57, A57q, F57q, C57q, B57q, StrChars.Road.codOf (cs := [c0, c1, c2]) (n := 3) rfl (fun c hc => (hbb c hc).2), own_up hbb, (by show 3 ≤ 4000; decide), own_ib (X57.warmed.interned_eq.trans hin0)⟩
        · have pre58 : ∀ t, Steps p.tables e below (s₁.setTop (mkF m 101 #[.val (.int p1), .val (.ref a2)] [(.int (4 : Int32)), (.int p1)])) t → Steps p.tables e below (s₁.setTop (entryFrame m #[(.int p1), (.ref a2)] 2)) t := fun t k => pre39 t (by
              show Steps p.tables e below (s₁.setTop (mkF m 67 #[.val (.int p1), .val (.ref a2)] [(.int (3 : Int32)), (.int p1)])) _
              refine XS.icmpYes X0.here hx rfl (pc0 := 67) (pc' := 99) rfl (hb hby d1_67) rfl (feq hc40).2 (by decide) (by decide) ?_
              show Steps p.tables e below (s₁.setTop (mkF m 99 #[.val (.int p1), .val (.ref a2)] [])) _
              refine XS.iloadN X0.here hx rfl (hb hby d1_99) rfl ?_
              show Steps p.tables e below (s₁.setTop (mkF m 100 #[.val (.int p1), .val (.ref a2)] [(.int p1)])) _
              refine XS.iconst X0.here hx rfl (hb hby d1_100) ?_
              exact k)
          by_cases hc59 : p1 = (4 : Int32)
          · obtain ⟨T60, h60, X60, e60, E60, A60, D60, -, st60⟩ := newO X0 hx hZ hown (hw _ (List.mem_of_getElem? (i := 7) rfl)) (hw _ (List.mem_of_getElem? (i := 8) rfl)) (hw _ (List.mem_of_getElem? (i := 9) rfl)) e0 (g := (mkF m 104 #[.val (.int p1), .val (.ref a2)] [])) rfl (hb hby d1_104) (by decide) (by decide)
            obtain ⟨b60, g60⟩ : ∃ z, z = h0.size := ⟨_, rfl⟩
            rw [← g60] at A60 D60 st60
            have ne_a2_b60 : a2 ≠ b60 := Nat.ne_of_lt (Nat.lt_of_lt_of_le V_a2.lt (Nat.le_of_eq g60.symm))
            have g_b60 : n0 ≤ b60 := Nat.le_trans Z0 (Nat.le_of_eq g60.symm)
            have sz_b60 : h0.size ≤ b60 := Nat.le_trans ((Keep.refl h0 [])).1 (Nat.le_of_eq g60.symm)
            have K60 : Keep h0 h60 [] := ((Keep.refl h0 [])).ext E60
            have F60_coder : Fld Z h60 b60 "java/lang/String" "coder" "B" (.int (0 : Int32)) := D60 (Or.inr (hw _ (List.mem_of_getElem? (i := 33) rfl))) (ty := .byte) (by decide)
            have F60_value : Fld Z h60 b60 "java/lang/String" "value" "[B" .null := D60 (Or.inr (hw _ (List.mem_of_getElem? (i := 35) rfl))) (ty := (.array .byte)) (by decide)
            have f61 := (V_a2.ext E60)
            obtain ⟨T62, h62, k62, X62, e62, E62, A62, st62⟩ := newP X60 hx hZ (hw _ (List.mem_of_getElem? (i := 1) rfl)) e60 (g := (mkF m 109 #[.val (.int p1), .val (.ref a2)] [(.int (4 : Int32)), (.ref b60), (.ref b60)])) rfl (hb hby d1_109) rfl (by decide) (cap := 4) (by decide) (by decide) (by decide) (by decide)
            obtain ⟨b62, g62⟩ : ∃ z, z = h60.size := ⟨_, rfl⟩
            rw [← g62] at A62 st62
            have ne_a2_b62 : a2 ≠ b62 := Nat.ne_of_lt (Nat.lt_of_lt_of_le f61.lt (Nat.le_of_eq g62.symm))
            have ne_b60_b62 : b60 ≠ b62 := Nat.ne_of_lt (Nat.lt_of_lt_of_le A60.lt (Nat.le_of_eq g62.symm))
            have V_b62 : Arv Z h62 b62 k62 .char (4 : Int32) [(.int (0 : Int32)), (.int (0 : Int32)), (.int (0 : Int32)), (.int (0 : Int32))] (.int (0 : Int32)) := (Arv.new A62 (by decide)).pad (pad_rep [] (.int (0 : Int32)) 4)
            have g_b62 : n0 ≤ b62 := Nat.le_trans (Nat.le_trans Z0 K60.1) (Nat.le_of_eq g62.symm)
            have sz_b62 : h0.size ≤ b62 := Nat.le_trans (K60).1 (Nat.le_of_eq g62.symm)
            have K62 : Keep h0 h62 [] := (K60).ext E62
            have f63 := (f61.ext E62)
            obtain ⟨cl64, Ar64, q64, S64, N64_, H64, G64⟩ := id f63
            obtain ⟨cl65, Ar65, q65, S65, N65_, H65, G65⟩ := id V_b62
            obtain ⟨T65, h65, X65, e65, W65, st65⟩ := stC X62 hx hZ e62 Ar65 (j := (0 : Int32)) (inb_of S65 ⟨by decide, by decide⟩) (g := (mkF m 116 #[.val (.int p1), .val (.ref a2)] [(.int c0), (.int (0 : Int32)), (.ref b62), (.ref b62), (.ref b60), (.ref b60)])) rfl rfl (hb hby d1_116)
            have V65 := Arv.set Ar65 q65 S65 N65_ H65 G65 (fits_nar_char _) W65 0 rfl (Nat.le_of_ble_eq_true rfl)
            have K65 : Keep h0 h65 [] := (K62).wr W65 (Or.inr sz_b62)
            have N65 := Fr.snoc X65 N0 g_b62
            have f66 := (f63.other W65 ne_a2_b62)
            obtain ⟨cl67, Ar67, q67, S67, N67_, H67, G67⟩ := id f66
            obtain ⟨cl68, Ar68, q68, S68, N68_, H68, G68⟩ := id V65
            obtain ⟨T68, h68, X68, e68, W68, st68⟩ := stC X65 hx hZ e65 Ar68 (j := (1 : Int32)) (inb_of S68 ⟨by decide, by decide⟩) (g := (mkF m 122 #[.val (.int p1), .val (.ref a2)] [(.int c1), (.int (1 : Int32)), (.ref b62), (.ref b62), (.ref b60), (.ref b60)])) rfl rfl (hb hby d1_122)
            have V68 := Arv.set Ar68 q68 S68 N68_ H68 G68 (fits_nar_char _) W68 1 rfl (Nat.le_of_ble_eq_true rfl)
            have K68 : Keep h0 h68 [] := (K65).wr W68 (Or.inr sz_b62)
            have N68 := Fr.snoc X68 N65 g_b62
            have f69 := (f66.other W68 ne_a2_b62)
            obtain ⟨cl70, Ar70, q70, S70, N70_, H70, G70⟩ := id f69
            obtain ⟨cl71, Ar71, q71, S71, N71_, H71, G71⟩ := id V68
            obtain ⟨T71, h71, X71, e71, W71, st71⟩ := stC X68 hx hZ e68 Ar71 (j := (2 : Int32)) (inb_of S71 ⟨by decide, by decide⟩) (g := (mkF m 128 #[.val (.int p1), .val (.ref a2)] [(.int c2), (.int (2 : Int32)), (.ref b62), (.ref b62), (.ref b60), (.ref b60)])) rfl rfl (hb hby d1_128)
            have V71 := Arv.set Ar71 q71 S71 N71_ H71 G71 (fits_nar_char _) W71 2 rfl (Nat.le_of_ble_eq_true rfl)
            have K71 : Keep h0 h71 [] := (K68).wr W71 (Or.inr sz_b62)
            have N71 := Fr.snoc X71 N68 g_b62
            have f72 := (f69.other W71 ne_a2_b62)
            obtain ⟨cl73, Ar73, q73, S73, N73_, H73, G73⟩ := id f72
            obtain ⟨cl74, Ar74, q74, S74, N74_, H74, G74⟩ := id V71
            obtain ⟨T74, h74, X74, e74, W74, st74⟩ := stC X71 hx hZ e71 Ar74 (j := (3 : Int32)) (inb_of S74 ⟨by decide, by decide⟩) (g := (mkF m 134 #[.val (.int p1), .val (.ref a2)] [(.int c3), (.int (3 : Int32)), (.ref b62), (.ref b62), (.ref b60), (.ref b60)])) rfl rfl (hb hby d1_134)
            have V74 := Arv.set Ar74 q74 S74 N74_ H74 G74 (fits_nar_char _) W74 3 rfl (Nat.le_of_ble_eq_true rfl)
            have K74 : Keep h0 h74 [] := (K71).wr W74 (Or.inr sz_b62)
            have N74 := Fr.snoc X74 N71 g_b62
            have f75 := (Exa.wr W74 (Exa.wr W71 (Exa.wr W68 (Exa.wr W65 (Exa.ext E62 A60)))))
            have f76 := (Fld.other W74 (Fld.other W71 (Fld.other W68 (Fld.other W65 (Fld.ext E62 F60_value) (Or.inl ne_b60_b62)) (Or.inl ne_b60_b62)) (Or.inl ne_b60_b62)) (Or.inl ne_b60_b62))
            have f77 := (Fld.other W74 (Fld.other W71 (Fld.other W68 (Fld.other W65 (Fld.ext E62 F60_coder) (Or.inl ne_b60_b62)) (Or.inl ne_b60_b62)) (Or.inl ne_b60_b62)) (Or.inl ne_b60_b62))
            have V78 : Arv Z h74 b62 k62 .char (4 : Int32) (([c0, c1, c2, c3] : List Int32).map Value.int) (.int (0 : Int32)) := by have q := V74; simp only [own_narc hbn.1, own_narc hbn.2.1, own_narc hbn.2.2.1, own_narc hbn.2.2.2.1] at q; exact q
            have hbb : ∀ c ∈ ([c0, c1, c2, c3] : List Int32), ¬ c < 0 ∧ ¬ (255 : Int32) < c := by intro c hc; simp only [List.mem_cons, List.not_mem_nil, or_false] at hc; rcases hc with hc | hc | hc | hc <;> (subst hc; first | exact hbn.1 | exact hbn.2.1 | exact hbn.2.2.1 | exact hbn.2.2.2.1 | exact hbn.2.2.2.2.1 | exact hbn.2.2.2.2.2.1 | exact hbn.2.2.2.2.2.2.1 | exact hbn.2.2.2.2.2.2.2.1 | exact hbn.2.2.2.2.2.2.2.2)
            have hws : ∀ d ∈ StrChars.Road.words, d.before a0 Z = true := fun d hd => hw d ((by decide +kernel : ∀ d ∈ StrChars.Road.words, d ∈ tables_1) d hd)
            obtain ⟨_, _, ⟨T79, L79, k79, n79⟩, -, X79, ⟨Lc79, hQ79, l79, y79, z79⟩, st79⟩ := X74.specialBack hx (y := (⟨"java/lang/String", "<init>", "([C)V"⟩ : MethodName)) rfl hown (mvT hZ (hw _ (List.mem_of_getElem? (i := 10) rfl))) (mvT hZ (hw _ (List.mem_of_getElem? (i := 11) rfl))) (mvT hZ (hw _ (List.mem_of_getElem? (i := 12) rfl))) (by decide) (StrChars.Road.backV (W := 1) hZ hws (kI := 4) (hw _ (List.mem_of_getElem? (i := 8) rfl)) (cs := [c0, c1, c2, c3]) (bs := ([c0, c1, c2, c3] : List Int32).map (fun c => c.toInt8.toInt32)) (n := 4) g_b60 (Nat.le_trans Z0 K74.1) f75 f76 f77 V78 (Sta.ext (own_keep_ext K74) S_C) hzc rfl rfl (by decide) (by decide) hbb rfl (by decide) (by decide)) (g := (mkF m 135 #[.val (.int p1), .val (.ref a2)] [(.ref b62), (.ref b60), (.ref b60)])) rfl (by rw [hml]; rfl) (Steps.refl _) (a := b60) (argsL := [(.ref b62)]) (rest := [(.ref b60)]) (lenOf pd_rmT_0 rfl) rfl (by show 2 * 0 + _ ≤ _; exact Nat.le_of_eq rfl) (hb hby d1_135) (fun _ _ => ⟨rfl, e74, (by decide : 2 + 1 ≤ _), (by decide : 8 + 4 ≤ _)⟩)
            dsimp only [Pt.U, Pt.locs, Pt.cells, Pt.slots] at X79 l79 y79 z79 st79 hQ79
            subst l79 y79 z79
            obtain ⟨rfl, N79q, K79q, A79q, C79q, t79, k79_, g791, g792, g793, F79q, B79q⟩ := hQ79
            have N79 := Fr.app N74 N79q
            have K79 : Keep h0 T79.heap [] := (K74).trans K79q (allS (Or.inr sz_b60) all0)
            obtain ⟨fs, hr, hrun, hended, hRW⟩ := Jvm.Stand.leaveW (s := s) (vm₁ := s.vm) X79 hS0 (show _ ≤ T79.heap.size by exact (Nat.le_trans (Nat.le_trans (Nat.le_trans (Nat.le_trans (Nat.le_trans (Nat.le_trans (Nat.le_trans (Nat.zero_le _) (E60).1) (E62).1) (Keep.of_wr W65).1) (Keep.of_wr W68).1) (Keep.of_wr W71).1) (Keep.of_wr W74).1) (K79q).1)) (v := some (.ref b60)) (fun h => by rw [Bd.returns] at h; cases h)
            refine ⟨_, _, pre58 _ ?_, hrun, hended, _, _, rfl, ?_, hRW.1, hRW.2.1, hRW.2.2.1, hRW.2.2.2.mono (by decide) (by decide)⟩
            · show Steps p.tables e below (s₁.setTop (mkF m 101 #[.val (.int p1), .val (.ref a2)] [(.int (4 : Int32)), (.int p1)])) _
              refine XS.icmpNo X0.here hx rfl (hb hby d1_101) rfl (teq hc59).2 ?_
              show Steps p.tables e below (s₁.setTop (mkF m 104 #[.val (.int p1), .val (.ref a2)] [])) _
              refine st60 _ ?_
              show Steps p.tables e below (T60.setTop (mkF m 107 #[.val (.int p1), .val (.ref a2)] [(.ref b60)])) _
              refine XS.dup X60.here hx rfl (hb hby d1_107) rfl rfl ?_
              show Steps p.tables e below (T60.setTop (mkF m 108 #[.val (.int p1), .val (.ref a2)] [(.ref b60), (.ref b60)])) _
              refine XS.iconst X60.here hx rfl (hb hby d1_108) ?_
              show Steps p.tables e below (T60.setTop (mkF m 109 #[.val (.int p1), .val (.ref a2)] [(.int (4 : Int32)), (.ref b60), (.ref b60)])) _
              refine st62 _ ?_
              show Steps p.tables e below (T62.setTop (mkF m 111 #[.val (.int p1), .val (.ref a2)] [(.ref b62), (.ref b60), (.ref b60)])) _
              refine XS.dup X62.here hx rfl (hb hby d1_111) rfl rfl ?_
              show Steps p.tables e below (T62.setTop (mkF m 112 #[.val (.int p1), .val (.ref a2)] [(.ref b62), (.ref b62), (.ref b60), (.ref b60)])) _
              refine XS.iconst X62.here hx rfl (hb hby d1_112) ?_
              show Steps p.tables e below (T62.setTop (mkF m 113 #[.val (.int p1), .val (.ref a2)] [(.int (0 : Int32)), (.ref b62), (.ref b62), (.ref b60), (.ref b60)])) _
              refine XS.aloadN X62.here hx rfl (hb hby d1_113) rfl rfl ?_
              show Steps p.tables e below (T62.setTop (mkF m 114 #[.val (.int p1), .val (.ref a2)] [(.ref a2), (.int (0 : Int32)), (.ref b62), (.ref b62), (.ref b60), (.ref b60)])) _
              refine XS.iconst X62.here hx rfl (hb hby d1_114) ?_
              show Steps p.tables e below (T62.setTop (mkF m 115 #[.val (.int p1), .val (.ref a2)] [(.int (0 : Int32)), (.ref a2), (.int (0 : Int32)), (.ref b62), (.ref b62), (.ref b60), (.ref b60)])) _
              refine X62.caload hx (j := (0 : Int32)) (v := (.int c0)) (by rw [e62]; exact Ar64.1) (State.isArrayOf_alike hZ.alike Ar64.2.1) Ar64.2.2 (inb_of S64 ⟨by decide, by decide⟩) (show cl64.slots[((0 : Int32)).toNatClampNeg]? = some (.int c0) from H64 0 (by rw [S64]; decide)) (g := (mkF m 115 #[.val (.int p1), .val (.ref a2)] [(.int (0 : Int32)), (.ref a2), (.int (0 : Int32)), (.ref b62), (.ref b62), (.ref b60), (.ref b60)])) rfl rfl (hb hby d1_115) _ ?_
              show Steps p.tables e below (T62.setTop (mkF m 116 #[.val (.int p1), .val (.ref a2)] [(.int c0), (.int (0 : Int32)), (.ref b62), (.ref b62), (.ref b60), (.ref b60)])) _
              refine st65 _ ?_
              show Steps p.tables e below (T65.setTop (mkF m 117 #[.val (.int p1), .val (.ref a2)] [(.ref b62), (.ref b60), (.ref b60)])) _
              refine XS.dup X65.here hx rfl (hb hby d1_117) rfl rfl ?_
              show Steps p.tables e below (T65.setTop (mkF m 118 #[.val (.int p1), .val (.ref a2)] [(.ref b62), (.ref b62), (.ref b60), (.ref b60)])) _
              refine XS.iconst X65.here hx rfl (hb hby d1_118) ?_
              show Steps p.tables e below (T65.setTop (mkF m 119 #[.val (.int p1), .val (.ref a2)] [(.int (1 : Int32)), (.ref b62), (.ref b62), (.ref b60), (.ref b60)])) _
              refine XS.aloadN X65.here hx rfl (hb hby d1_119) rfl rfl ?_
              show Steps p.tables e below (T65.setTop (mkF m 120 #[.val (.int p1), .val (.ref a2)] [(.ref a2), (.int (1 : Int32)), (.ref b62), (.ref b62), (.ref b60), (.ref b60)])) _
              refine XS.iconst X65.here hx rfl (hb hby d1_120) ?_
              show Steps p.tables e below (T65.setTop (mkF m 121 #[.val (.int p1), .val (.ref a2)] [(.int (1 : Int32)), (.ref a2), (.int (1 : Int32)), (.ref b62), (.ref b62), (.ref b60), (.ref b60)])) _
              refine X65.caload hx (j := (1 : Int32)) (v := (.int c1)) (by rw [e65]; exact Ar67.1) (State.isArrayOf_alike hZ.alike Ar67.2.1) Ar67.2.2 (inb_of S67 ⟨by decide, by decide⟩) (show cl67.slots[((1 : Int32)).toNatClampNeg]? = some (.int c1) from H67 1 (by rw [S67]; decide)) (g := (mkF m 121 #[.val (.int p1), .val (.ref a2)] [(.int (1 : Int32)), (.ref a2), (.int (1 : Int32)), (.ref b62), (.ref b62), (.ref b60), (.ref b60)])) rfl rfl (hb hby d1_121) _ ?_
              show Steps p.tables e below (T65.setTop (mkF m 122 #[.val (.int p1), .val (.ref a2)] [(.int c1), (.int (1 : Int32)), (.ref b62), (.ref b62), (.ref b60), (.ref b60)])) _
              refine st68 _ ?_
              show Steps p.tables e below (T68.setTop (mkF m 123 #[.val (.int p1), .val (.ref a2)] [(.ref b62), (.ref b60), (.ref b60)])) _
              refine XS.dup X68.here hx rfl (hb hby d1_123) rfl rfl ?_
              show Steps p.tables e below (T68.setTop (mkF m 124 #[.val (.int p1), .val (.ref a2)] [(.ref b62), (.ref b62), (.ref b60), (.ref b60)])) _
              refine XS.iconst X68.here hx rfl (hb hby d1_124) ?_
              show Steps p.tables e below (T68.setTop (mkF m 125 #[.val (.int p1), .val (.ref a2)] [(.int (2 : Int32)), (.ref b62), (.ref b62), (.ref b60), (.ref b60)])) _
              refine XS.aloadN X68.here hx rfl (hb hby d1_125) rfl rfl ?_
              show Steps p.tables e below (T68.setTop (mkF m 126 #[.val (.int p1), .val (.ref a2)] [(.ref a2), (.int (2 : Int32)), (.ref b62), (.ref b62), (.ref b60), (.ref b60)])) _
              refine XS.iconst X68.here hx rfl (hb hby d1_126) ?_
              show Steps p.tables e below (T68.setTop (mkF m 127 #[.val (.int p1), .val (.ref a2)] [(.int (2 : Int32)), (.ref a2), (.int (2 : Int32)), (.ref b62), (.ref b62), (.ref b60), (.ref b60)])) _
              refine X68.caload hx (j := (2 : Int32)) (v := (.int c2)) (by rw [e68]; exact Ar70.1) (State.isArrayOf_alike hZ.alike Ar70.2.1) Ar70.2.2 (inb_of S70 ⟨by decide, by decide⟩) (show cl70.slots[((2 : Int32)).toNatClampNeg]? = some (.int c2) from H70 2 (by rw [S70]; decide)) (g := (mkF m 127 #[.val (.int p1), .val (.ref a2)] [(.int (2 : Int32)), (.ref a2), (.int (2 : Int32)), (.ref b62), (.ref b62), (.ref b60), (.ref b60)])) rfl rfl (hb hby d1_127) _ ?_
              show Steps p.tables e below (T68.setTop (mkF m 128 #[.val (.int p1), .val (.ref a2)] [(.int c2), (.int (2 : Int32)), (.ref b62), (.ref b62), (.ref b60), (.ref b60)])) _
              refine st71 _ ?_
              show Steps p.tables e below (T71.setTop (mkF m 129 #[.val (.int p1), .val (.ref a2)] [(.ref b62), (.ref b60), (.ref b60)])) _
              refine XS.dup X71.here hx rfl (hb hby d1_129) rfl rfl ?_
              show Steps p.tables e below (T71.setTop (mkF m 130 #[.val (.int p1), .val (.ref a2)] [(.ref b62), (.ref b62), (.ref b60), (.ref b60)])) _
              refine XS.iconst X71.here hx rfl (hb hby d1_130) ?_
              show Steps p.tables e below (T71.setTop (mkF m 131 #[.val (.int p1), .val (.ref a2)] [(.int (3 : Int32)), (.ref b62), (.ref b62), (.ref b60), (.ref b60)])) _
              refine XS.aloadN X71.here hx rfl (hb hby d1_131) rfl rfl ?_
              show Steps p.tables e below (T71.setTop (mkF m 132 #[.val (.int p1), .val (.ref a2)] [(.ref a2), (.int (3 : Int32)), (.ref b62), (.ref b62), (.ref b60), (.ref b60)])) _
              refine XS.iconst X71.here hx rfl (hb hby d1_132) ?_
              show Steps p.tables e below (T71.setTop (mkF m 133 #[.val (.int p1), .val (.ref a2)] [(.int (3 : Int32)), (.ref a2), (.int (3 : Int32)), (.ref b62), (.ref b62), (.ref b60), (.ref b60)])) _
              refine X71.caload hx (j := (3 : Int32)) (v := (.int c3)) (by rw [e71]; exact Ar73.1) (State.isArrayOf_alike hZ.alike Ar73.2.1) Ar73.2.2 (inb_of S73 ⟨by decide, by decide⟩) (show cl73.slots[((3 : Int32)).toNatClampNeg]? = some (.int c3) from H73 3 (by rw [S73]; decide)) (g := (mkF m 133 #[.val (.int p1), .val (.ref a2)] [(.int (3 : Int32)), (.ref a2), (.int (3 : Int32)), (.ref b62), (.ref b62), (.ref b60), (.ref b60)])) rfl rfl (hb hby d1_133) _ ?_
              show Steps p.tables e below (T71.setTop (mkF m 134 #[.val (.int p1), .val (.ref a2)] [(.int c3), (.int (3 : Int32)), (.ref b62), (.ref b62), (.ref b60), (.ref b60)])) _
              refine st74 _ ?_
              show Steps p.tables e below (T74.setTop (mkF m 135 #[.val (.int p1), .val (.ref a2)] [(.ref b62), (.ref b60), (.ref b60)])) _
              refine st79.trans ?_
              show Steps p.tables e below (T79.setTop (mkF m 138 #[.val (.int p1), .val (.ref a2)] [(.ref b60)])) _
              jvm_step X79.here [X79.here.top, hx, (hb hby d1_138), X79.method', Bd.returns, Value.isRef, FieldType.isReference]
              first | (intro acts; rw [hr _ acts rfl rfl rfl]) | rw [hr _ _ rfl rfl rfl]
              exact Steps.refl _
            · show Q_rmT Z p1 a2 kd zc c0 c1 c2 c3 c4 c5 c6 c7 c8 h0 n0 _ T79.heap T79.vm _
              exact ⟨b60, t79, k79_, [c0, c1, c2, c3], (4 : Int32), _, rfl, N79, K79, A79q, F79q, C79q, B79q, StrChars.Road.codOf (cs := [c0, c1, c2, c3]) (n := 4) rfl (fun c hc => (hbb c hc).2), own_up hbb, (by show 4 ≤ 4000; decide), own_ib (X79.warmed.interned_eq.trans hin0)⟩
          · have pre80 : ∀ t, Steps p.tables e below (s₁.setTop (mkF m 141 #[.val (.int p1), .val (.ref a2)] [(.int (5 : Int32)), (.int p1)])) t → Steps p.tables e below (s₁.setTop (entryFrame m #[(.int p1), (.ref a2)] 2)) t := fun t k => pre58 t (by
                show Steps p.tables e below (s₁.setTop (mkF m 101 #[.val (.int p1), .val (.ref a2)] [(.int (4 : Int32)), (.int p1)])) _
                refine XS.icmpYes X0.here hx rfl (pc0 := 101) (pc' := 139) rfl (hb hby d1_101) rfl (feq hc59).2 (by decide) (by decide) ?_
                show Steps p.tables e below (s₁.setTop (mkF m 139 #[.val (.int p1), .val (.ref a2)] [])) _
                refine XS.iloadN X0.here hx rfl (hb hby d1_139) rfl ?_
                show Steps p.tables e below (s₁.setTop (mkF m 140 #[.val (.int p1), .val (.ref a2)] [(.int p1)])) _
                refine XS.iconst X0.here hx rfl (hb hby d1_140) ?_
                exact k)
            by_cases hc81 : p1 = (5 : Int32)
            · obtain ⟨T82, h82, X82, e82, E82, A82, D82, -, st82⟩ := newO X0 hx hZ hown (hw _ (List.mem_of_getElem? (i := 7) rfl)) (hw _ (List.mem_of_getElem? (i := 8) rfl)) (hw _ (List.mem_of_getElem? (i := 9) rfl)) e0 (g := (mkF m 144 #[.val (.int p1), .val (.ref a2)] [])) rfl (hb hby d1_144) (by decide) (by decide)
              obtain ⟨b82, g82⟩ : ∃ z, z = h0.size := ⟨_, rfl⟩
              rw [← g82] at A82 D82 st82
              have ne_a2_b82 : a2 ≠ b82 := Nat.ne_of_lt (Nat.lt_of_lt_of_le V_a2.lt (Nat.le_of_eq g82.symm))
              have g_b82 : n0 ≤ b82 := Nat.le_trans Z0 (Nat.le_of_eq g82.symm)
              have sz_b82 : h0.size ≤ b82 := Nat.le_trans ((Keep.refl h0 [])).1 (Nat.le_of_eq g82.symm)
              have K82 : Keep h0 h82 [] := ((Keep.refl h0 [])).ext E82
              have F82_coder : Fld Z h82 b82 "java/lang/String" "coder" "B" (.int (0 : Int32)) := D82 (Or.inr (hw _ (List.mem_of_getElem? (i := 33) rfl))) (ty := .byte) (by decide)
              have F82_value : Fld Z h82 b82 "java/lang/String" "value" "[B" .null := D82 (Or.inr (hw _ (List.mem_of_getElem? (i := 35) rfl))) (ty := (.array .byte)) (by decide)
              have f83 := (V_a2.ext E82)
              obtain ⟨T84, h84, k84, X84, e84, E84, A84, st84⟩ := newP X82 hx hZ (hw _ (List.mem_of_getElem? (i := 1) rfl)) e82 (g := (mkF m 149 #[.val (.int p1), .val (.ref a2)] [(.int (5 : Int32)), (.ref b82), (.ref b82)])) rfl (hb hby d1_149) rfl (by decide) (cap := 5) (by decide) (by decide) (by decide) (by decide)
              obtain ⟨b84, g84⟩ : ∃ z, z = h82.size := ⟨_, rfl⟩
              rw [← g84] at A84 st84
              have ne_a2_b84 : a2 ≠ b84 := Nat.ne_of_lt (Nat.lt_of_lt_of_le f83.lt (Nat.le_of_eq g84.symm))
              have ne_b82_b84 : b82 ≠ b84 := Nat.ne_of_lt (Nat.lt_of_lt_of_le A82.lt (Nat.le_of_eq g84.symm))
              have V_b84 : Arv Z h84 b84 k84 .char (5 : Int32) [(.int (0 : Int32)), (.int (0 : Int32)), (.int (0 : Int32)), (.int (0 : Int32)), (.int (0 : Int32))] (.int (0 : Int32)) := (Arv.new A84 (by decide)).pad (pad_rep [] (.int (0 : Int32)) 5)
              have g_b84 : n0 ≤ b84 := Nat.le_trans (Nat.le_trans Z0 K82.1) (Nat.le_of_eq g84.symm)
              have sz_b84 : h0.size ≤ b84 := Nat.le_trans (K82).1 (Nat.le_of_eq g84.symm)
              have K84 : Keep h0 h84 [] := (K82).ext E84
              have f85 := (f83.ext E84)
              obtain ⟨cl86, Ar86, q86, S86, N86_, H86, G86⟩ := id f85
              obtain ⟨cl87, Ar87, q87, S87, N87_, H87, G87⟩ := id V_b84
              obtain ⟨T87, h87, X87, e87, W87, st87⟩ := stC X84 hx hZ e84 Ar87 (j := (0 : Int32)) (inb_of S87 ⟨by decide, by decide⟩) (g := (mkF m 156 #[.val (.int p1), .val (.ref a2)] [(.int c0), (.int (0 : Int32)), (.ref b84), (.ref b84), (.ref b82), (.ref b82)])) rfl rfl (hb hby d1_156)
              have V87 := Arv.set Ar87 q87 S87 N87_ H87 G87 (fits_nar_char _) W87 0 rfl (Nat.le_of_ble_eq_true rfl)
              have K87 : Keep h0 h87 [] := (K84).wr W87 (Or.inr sz_b84)
              have N87 := Fr.snoc X87 N0 g_b84
              have f88 := (f85.other W87 ne_a2_b84)
              obtain ⟨cl89, Ar89, q89, S89, N89_, H89, G89⟩ := id f88
              obtain ⟨cl90, Ar90, q90, S90, N90_, H90, G90⟩ := id V87
              obtain ⟨T90, h90, X90, e90, W90, st90⟩ := stC X87 hx hZ e87 Ar90 (j := (1 : Int32)) (inb_of S90 ⟨by decide, by decide⟩) (g := (mkF m 162 #[.val (.int p1), .val (.ref a2)] [(.int c1), (.int (1 : Int32)), (.ref b84), (.ref b84), (.ref b82), (.ref b82)])) rfl rfl (hb hby d1_162)
              have V90 := Arv.set Ar90 q90 S90 N90_ H90 G90 (fits_nar_char _) W90 1 rfl (Nat.le_of_ble_eq_true rfl)
              have K90 : Keep h0 h90 [] := (K87).wr W90 (Or.inr sz_b84)
              have N90 := Fr.snoc X90 N87 g_b84
              have f91 := (f88.other W90 ne_a2_b84)
              obtain ⟨cl92, Ar92, q92, S92, N92_, H92, G92⟩ := id f91
              obtain ⟨cl93, Ar93, q93, S93, N93_, H93, G93⟩ := id V90
              obtain ⟨T93, h93, X93, e93, W93, st93⟩ := stC X90 hx hZ e90 Ar93 (j := (2 : Int32)) (inb_of S93 ⟨by decide, by decide⟩) (g := (mkF m 168 #[.val (.int p1), .val (.ref a2)] [(.int c2), (.int (2 : Int32)), (.ref b84), (.ref b84), (.ref b82), (.ref b82)])) rfl rfl (hb hby d1_168)
              have V93 := Arv.set Ar93 q93 S93 N93_ H93 G93 (fits_nar_char _) W93 2 rfl (Nat.le_of_ble_eq_true rfl)
              have K93 : Keep h0 h93 [] := (K90).wr W93 (Or.inr sz_b84)
              have N93 := Fr.snoc X93 N90 g_b84
              have f94 := (f91.other W93 ne_a2_b84)
              obtain ⟨cl95, Ar95, q95, S95, N95_, H95, G95⟩ := id f94
              obtain ⟨cl96, Ar96, q96, S96, N96_, H96, G96⟩ := id V93
              obtain ⟨T96, h96, X96, e96, W96, st96⟩ := stC X93 hx hZ e93 Ar96 (j := (3 : Int32)) (inb_of S96 ⟨by decide, by decide⟩) (g := (mkF m 174 #[.val (.int p1), .val (.ref a2)] [(.int c3), (.int (3 : Int32)), (.ref b84), (.ref b84), (.ref b82), (.ref b82)])) rfl rfl (hb hby d1_174)
              have V96 := Arv.set Ar96 q96 S96 N96_ H96 G96 (fits_nar_char _) W96 3 rfl (Nat.le_of_ble_eq_true rfl)
              have K96 : Keep h0 h96 [] := (K93).wr W96 (Or.inr sz_b84)
              have N96 := Fr.snoc X96 N93 g_b84
              have f97 := (f94.other W96 ne_a2_b84)
              obtain ⟨cl98, Ar98, q98, S98, N98_, H98, G98⟩ := id f97
              obtain ⟨cl99, Ar99, q99, S99, N99_, H99, G99⟩ := id V96
              obtain ⟨T99, h99, X99, e99, W99, st99⟩ := stC X96 hx hZ e96 Ar99 (j := (4 : Int32)) (inb_of S99 ⟨by decide, by decide⟩) (g := (mkF m 180 #[.val (.int p1), .val (.ref a2)] [(.int c4), (.int (4 : Int32)), (.ref b84), (.ref b84), (.ref b82), (.ref b82)])) rfl rfl (hb hby d1_180)
              have V99 := Arv.set Ar99 q99 S99 N99_ H99 G99 (fits_nar_char _) W99 4 rfl (Nat.le_of_ble_eq_true rfl)
              have K99 : Keep h0 h99 [] := (K96).wr W99 (Or.inr sz_b84)
              have N99 := Fr.snoc X99 N96 g_b84
              have f100 := (Exa.wr W99 (Exa.wr W96 (Exa.wr W93 (Exa.wr W90 (Exa.wr W87 (Exa.ext E84 A82))))))
              have f101 := (Fld.other W99 (Fld.other W96 (Fld.other W93 (Fld.other W90 (Fld.other W87 (Fld.ext E84 F82_value) (Or.inl ne_b82_b84)) (Or.inl ne_b82_b84)) (Or.inl ne_b82_b84)) (Or.inl ne_b82_b84)) (Or.inl ne_b82_b84))
              have f102 := (Fld.other W99 (Fld.other W96 (Fld.other W93 (Fld.other W90 (Fld.other W87 (Fld.ext E84 F82_coder) (Or.inl ne_b82_b84)) (Or.inl ne_b82_b84)) (Or.inl ne_b82_b84)) (Or.inl ne_b82_b84)) (Or.inl ne_b82_b84))
              have V103 : Arv Z h99 b84 k84 .char (5 : Int32) (([c0, c1, c2, c3, c4] : List Int32).map Value.int) (.int (0 : Int32)) := by have q := V99; simp only [own_narc hbn.1, own_narc hbn.2.1, own_narc hbn.2.2.1, own_narc hbn.2.2.2.1, own_narc hbn.2.2.2.2.1] at q; exact q
              have hbb : ∀ c ∈ ([c0, c1, c2, c3, c4] : List Int32), ¬ c < 0 ∧ ¬ (255 : Int32) < c := by intro c hc; simp only [List.mem_cons, List.not_mem_nil, or_false] at hc; rcases hc with hc | hc | hc | hc | hc <;> (subst hc; first | exact hbn.1 | exact hbn.2.1 | exact hbn.2.2.1 | exact hbn.2.2.2.1 | exact hbn.2.2.2.2.1 | exact hbn.2.2.2.2.2.1 | exact hbn.2.2.2.2.2.2.1 | exact hbn.2.2.2.2.2.2.2.1 | exact hbn.2.2.2.2.2.2.2.2)
              have hws : ∀ d ∈ StrChars.Road.words, d.before a0 Z = true := fun d hd => hw d ((by decide +kernel : ∀ d ∈ StrChars.Road.words, d ∈ tables_1) d hd)
              obtain ⟨_, _, ⟨T104, L104, k104, n104⟩, -, X104, ⟨Lc104, hQ104, l104, y104, z104⟩, st104⟩ := X99.specialBack hx (y := (⟨"java/lang/String", "<init>", "([C)V"⟩ : MethodName)) rfl hown (mvT hZ (hw _ (List.mem_of_getElem? (i := 10) rfl))) (mvT hZ (hw _ (List.mem_of_getElem? (i := 11) rfl))) (mvT hZ (hw _ (List.mem_of_getElem? (i := 12) rfl))) (by decide) (StrChars.Road.backV (W := 1) hZ hws (kI := 4) (hw _ (List.mem_of_getElem? (i := 8) rfl)) (cs := [c0, c1, c2, c3, c4]) (bs := ([c0, c1, c2, c3, c4] : List Int32).map (fun c => c.toInt8.toInt32)) (n := 5) g_b82 (Nat.le_trans Z0 K99.1) f100 f101 f102 V103 (Sta.ext (own_keep_ext K99) S_C) hzc rfl rfl (by decide) (by decide) hbb rfl (by decide) (by decide)) (g := (mkF m 181 #[.val (.int p1), .val (.ref a2)] [(.ref b84), (.ref b82), (.ref b82)])) rfl (by rw [hml]; rfl) (Steps.refl _) (a := b82) (argsL := [(.ref b84)]) (rest := [(.ref b82)]) (lenOf pd_rmT_0 rfl) rfl (by show 2 * 0 + _ ≤ _; exact Nat.le_of_eq rfl) (hb hby d1_181) (fun _ _ => ⟨rfl, e99, (by decide : 2 + 1 ≤ _), (by decide : 9 + 5 ≤ _)⟩)
              dsimp only [Pt.U, Pt.locs, Pt.cells, Pt.slots] at X104 l104 y104 z104 st104 hQ104
              subst l104 y104 z104
              obtain ⟨rfl, N104q, K104q, A104q, C104q, t104, k104_, g1041, g1042, g1043, F104q, B104q⟩ := hQ104
              have N104 := Fr.app N99 N104q
              have K104 : Keep h0 T104.heap [] := (K99).trans K104q (allS (Or.inr sz_b82) all0)
              obtain ⟨fs, hr, hrun, hended, hRW⟩ := Jvm.Stand.leaveW (s := s) (vm₁ := s.vm) X104 hS0 (show _ ≤ T104.heap.size by exact (Nat.le_trans (Nat.le_trans (Nat.le_trans (Nat.le_trans (Nat.le_trans (Nat.le_trans (Nat.le_trans (Nat.le_trans (Nat.zero_le _) (E82).1) (E84).1) (Keep.of_wr W87).1) (Keep.of_wr W90).1) (Keep.of_wr W93).1) (Keep.of_wr W96).1) (Keep.of_wr W99).1) (K104q).1)) (v := some (.ref b82)) (fun h => by rw [Bd.returns] at h; cases h)
              refine ⟨_, _, pre80 _ ?_, hrun, hended, _, _, rfl, ?_, hRW.1, hRW.2.1, hRW.2.2.1, hRW.2.2.2.mono (by decide) (by decide)⟩
              · show Steps p.tables e below (s₁.setTop (mkF m 141 #[.val (.int p1), .val (.ref a2)] [(.int (5 : Int32)), (.int p1)])) _
                refine XS.icmpNo X0.here hx rfl (hb hby d1_141) rfl (teq hc81).2 ?_
                show Steps p.tables e below (s₁.setTop (mkF m 144 #[.val (.int p1), .val (.ref a2)] [])) _
                refine st82 _ ?_
                show Steps p.tables e below (T82.setTop (mkF m 147 #[.val (.int p1), .val (.ref a2)] [(.ref b82)])) _
                refine XS.dup X82.here hx rfl (hb hby d1_147) rfl rfl ?_
                show Steps p.tables e below (T82.setTop (mkF m 148 #[.val (.int p1), .val (.ref a2)] [(.ref b82), (.ref b82)])) _
                refine XS.iconst X82.here hx rfl (hb hby d1_148) ?_
                show Steps p.tables e below (T82.setTop (mkF m 149 #[.val (.int p1), .val (.ref a2)] [(.int (5 : Int32)), (.ref b82), (.ref b82)])) _
                refine st84 _ ?_
                show Steps p.tables e below (T84.setTop (mkF m 151 #[.val (.int p1), .val (.ref a2)] [(.ref b84), (.ref b82), (.ref b82)])) _
                refine XS.dup X84.here hx rfl (hb hby d1_151) rfl rfl ?_
                show Steps p.tables e below (T84.setTop (mkF m 152 #[.val (.int p1), .val (.ref a2)] [(.ref b84), (.ref b84), (.ref b82), (.ref b82)])) _
                refine XS.iconst X84.here hx rfl (hb hby d1_152) ?_
                show Steps p.tables e below (T84.setTop (mkF m 153 #[.val (.int p1), .val (.ref a2)] [(.int (0 : Int32)), (.ref b84), (.ref b84), (.ref b82), (.ref b82)])) _
                refine XS.aloadN X84.here hx rfl (hb hby d1_153) rfl rfl ?_
                show Steps p.tables e below (T84.setTop (mkF m 154 #[.val (.int p1), .val (.ref a2)] [(.ref a2), (.int (0 : Int32)), (.ref b84), (.ref b84), (.ref b82), (.ref b82)])) _
                refine XS.iconst X84.here hx rfl (hb hby d1_154) ?_
                show Steps p.tables e below (T84.setTop (mkF m 155 #[.val (.int p1), .val (.ref a2)] [(.int (0 : Int32)), (.ref a2), (.int (0 : Int32)), (.ref b84), (.ref b84), (.ref b82), (.ref b82)])) _
                refine X84.caload hx (j := (0 : Int32)) (v := (.int c0)) (by rw [e84]; exact Ar86.1) (State.isArrayOf_alike hZ.alike Ar86.2.1) Ar86.2.2 (inb_of S86 ⟨by decide, by decide⟩) (show cl86.slots[((0 : Int32)).toNatClampNeg]? = some (.int c0) from H86 0 (by rw [S86]; decide)) (g := (mkF m 155 #[.val (.int p1), .val (.ref a2)] [(.int (0 : Int32)), (.ref a2), (.int (0 : Int32)), (.ref b84), (.ref b84), (.ref b82), (.ref b82)])) rfl rfl (hb hby d1_155) _ ?_
                show Steps p.tables e below (T84.setTop (mkF m 156 #[.val (.int p1), .val (.ref a2)] [(.int c0), (.int (0 : Int32)), (.ref b84), (.ref b84), (.ref b82), (.ref b82)])) _
                refine st87 _ ?_
                show Steps p.tables e below (T87.setTop (mkF m 157 #[.val (.int p1), .val (.ref a2)] [(.ref b84), (.ref b82), (.ref b82)])) _
                refine XS.dup X87.here hx rfl (hb hby d1_157) rfl rfl ?_
                show Steps p.tables e below (T87.setTop (mkF m 158 #[.val (.int p1), .val (.ref a2)] [(.ref b84), (.ref b84), (.ref b82), (.ref b82)])) _
                refine XS.iconst X87.here hx rfl (hb hby d1_158) ?_
                show Steps p.tables e below (T87.setTop (mkF m 159 #[.val (.int p1), .val (.ref a2)] [(.int (1 : Int32)), (.ref b84), (.ref b84), (.ref b82), (.ref b82)])) _
                refine XS.aloadN X87.here hx rfl (hb hby d1_159) rfl rfl ?_
                show Steps p.tables e below (T87.setTop (mkF m 160 #[.val (.int p1), .val (.ref a2)] [(.ref a2), (.int (1 : Int32)), (.ref b84), (.ref b84), (.ref b82), (.ref b82)])) _
                refine XS.iconst X87.here hx rfl (hb hby d1_160) ?_
                show Steps p.tables e below (T87.setTop (mkF m 161 #[.val (.int p1), .val (.ref a2)] [(.int (1 : Int32)), (.ref a2), (.int (1 : Int32)), (.ref b84), (.ref b84), (.ref b82), (.ref b82)])) _
                refine X87.caload hx (j := (1 : Int32)) (v := (.int c1)) (by rw [e87]; exact Ar89.1) (State.isArrayOf_alike hZ.alike Ar89.2.1) Ar89.2.2 (inb_of S89 ⟨by decide, by decide⟩) (show cl89.slots[((1 : Int32)).toNatClampNeg]? = some (.int c1) from H89 1 (by rw [S89]; decide)) (g := (mkF m 161 #[.val (.int p1), .val (.ref a2)] [(.int (1 : Int32)), (.ref a2), (.int (1 : Int32)), (.ref b84), (.ref b84), (.ref b82), (.ref b82)])) rfl rfl (hb hby d1_161) _ ?_
                show Steps p.tables e below (T87.setTop (mkF m 162 #[.val (.int p1), .val (.ref a2)] [(.int c1), (.int (1 : Int32)), (.ref b84), (.ref b84), (.ref b82), (.ref b82)])) _
                refine st90 _ ?_
                show Steps p.tables e below (T90.setTop (mkF m 163 #[.val (.int p1), .val (.ref a2)] [(.ref b84), (.ref b82), (.ref b82)])) _
                refine XS.dup X90.here hx rfl (hb hby d1_163) rfl rfl ?_
                show Steps p.tables e below (T90.setTop (mkF m 164 #[.val (.int p1), .val (.ref a2)] [(.ref b84), (.ref b84), (.ref b82), (.ref b82)])) _
                refine XS.iconst X90.here hx rfl (hb hby d1_164) ?_
                show Steps p.tables e below (T90.setTop (mkF m 165 #[.val (.int p1), .val (.ref a2)] [(.int (2 : Int32)), (.ref b84), (.ref b84), (.ref b82), (.ref b82)])) _
                refine XS.aloadN X90.here hx rfl (hb hby d1_165) rfl rfl ?_
                show Steps p.tables e below (T90.setTop (mkF m 166 #[.val (.int p1), .val (.ref a2)] [(.ref a2), (.int (2 : Int32)), (.ref b84), (.ref b84), (.ref b82), (.ref b82)])) _
                refine XS.iconst X90.here hx rfl (hb hby d1_166) ?_
                show Steps p.tables e below (T90.setTop (mkF m 167 #[.val (.int p1), .val (.ref a2)] [(.int (2 : Int32)), (.ref a2), (.int (2 : Int32)), (.ref b84), (.ref b84), (.ref b82), (.ref b82)])) _
                refine X90.caload hx (j := (2 : Int32)) (v := (.int c2)) (by rw [e90]; exact Ar92.1) (State.isArrayOf_alike hZ.alike Ar92.2.1) Ar92.2.2 (inb_of S92 ⟨by decide, by decide⟩) (show cl92.slots[((2 : Int32)).toNatClampNeg]? = some (.int c2) from H92 2 (by rw [S92]; decide)) (g := (mkF m 167 #[.val (.int p1), .val (.ref a2)] [(.int (2 : Int32)), (.ref a2), (.int (2 : Int32)), (.ref b84), (.ref b84), (.ref b82), (.ref b82)])) rfl rfl (hb hby d1_167) _ ?_
                show Steps p.tables e below (T90.setTop (mkF m 168 #[.val (.int p1), .val (.ref a2)] [(.int c2), (.int (2 : Int32)), (.ref b84), (.ref b84), (.ref b82), (.ref b82)])) _
                refine st93 _ ?_
                show Steps p.tables e below (T93.setTop (mkF m 169 #[.val (.int p1), .val (.ref a2)] [(.ref b84), (.ref b82), (.ref b82)])) _
                refine XS.dup X93.here hx rfl (hb hby d1_169) rfl rfl ?_
                show Steps p.tables e below (T93.setTop (mkF m 170 #[.val (.int p1), .val (.ref a2)] [(.ref b84), (.ref b84), (.ref b82), (.ref b82)])) _
                refine XS.iconst X93.here hx rfl (hb hby d1_170) ?_
                show Steps p.tables e below (T93.setTop (mkF m 171 #[.val (.int p1), .val (.ref a2)] [(.int (3 : Int32)), (.ref b84), (.ref b84), (.ref b82), (.ref b82)])) _
                refine XS.aloadN X93.here hx rfl (hb hby d1_171) rfl rfl ?_
                show Steps p.tables e below (T93.setTop (mkF m 172 #[.val (.int p1), .val (.ref a2)] [(.ref a2), (.int (3 : Int32)), (.ref b84), (.ref b84), (.ref b82), (.ref b82)])) _
                refine XS.iconst X93.here hx rfl (hb hby d1_172) ?_
                show Steps p.tables e below (T93.setTop (mkF m 173 #[.val (.int p1), .val (.ref a2)] [(.int (3 : Int32)), (.ref a2), (.int (3 : Int32)), (.ref b84), (.ref b84), (.ref b82), (.ref b82)])) _
                refine X93.caload hx (j := (3 : Int32)) (v := (.int c3)) (by rw [e93]; exact Ar95.1) (State.isArrayOf_alike hZ.alike Ar95.2.1) Ar95.2.2 (inb_of S95 ⟨by decide, by decide⟩) (show cl95.slots[((3 : Int32)).toNatClampNeg]? = some (.int c3) from H95 3 (by rw [S95]; decide)) (g := (mkF m 173 #[.val (.int p1), .val (.ref a2)] [(.int (3 : Int32)), (.ref a2), (.int (3 : Int32)), (.ref b84), (.ref b84), (.ref b82), (.ref b82)])) rfl rfl (hb hby d1_173) _ ?_
                show Steps p.tables e below (T93.setTop (mkF m 174 #[.val (.int p1), .val (.ref a2)] [(.int c3), (.int (3 : Int32)), (.ref b84), (.ref b84), (.ref b82), (.ref b82)])) _
                refine st96 _ ?_
                show Steps p.tables e below (T96.setTop (mkF m 175 #[.val (.int p1), .val (.ref a2)] [(.ref b84), (.ref b82), (.ref b82)])) _
                refine XS.dup X96.here hx rfl (hb hby d1_175) rfl rfl ?_
                show Steps p.tables e below (T96.setTop (mkF m 176 #[.val (.int p1), .val (.ref a2)] [(.ref b84), (.ref b84), (.ref b82), (.ref b82)])) _
                refine XS.iconst X96.here hx rfl (hb hby d1_176) ?_
                show Steps p.tables e below (T96.setTop (mkF m 177 #[.val (.int p1), .val (.ref a2)] [(.int (4 : Int32)), (.ref b84), (.ref b84), (.ref b82), (.ref b82)])) _
                refine XS.aloadN X96.here hx rfl (hb hby d1_177) rfl rfl ?_
                show Steps p.tables e below (T96.setTop (mkF m 178 #[.val (.int p1), .val (.ref a2)] [(.ref a2), (.int (4 : Int32)), (.ref b84), (.ref b84), (.ref b82), (.ref b82)])) _
                refine XS.iconst X96.here hx rfl (hb hby d1_178) ?_
                show Steps p.tables e below (T96.setTop (mkF m 179 #[.val (.int p1), .val (.ref a2)] [(.int (4 : Int32)), (.ref a2), (.int (4 : Int32)), (.ref b84), (.ref b84), (.ref b82), (.ref b82)])) _
                refine X96.caload hx (j := (4 : Int32)) (v := (.int c4)) (by rw [e96]; exact Ar98.1) (State.isArrayOf_alike hZ.alike Ar98.2.1) Ar98.2.2 (inb_of S98 ⟨by decide, by decide⟩) (show cl98.slots[((4 : Int32)).toNatClampNeg]? = some (.int c4) from H98 4 (by rw [S98]; decide)) (g := (mkF m 179 #[.val (.int p1), .val (.ref a2)] [(.int (4 : Int32)), (.ref a2), (.int (4 : Int32)), (.ref b84), (.ref b84), (.ref b82), (.ref b82)])) rfl rfl (hb hby d1_179) _ ?_
                show Steps p.tables e below (T96.setTop (mkF m 180 #[.val (.int p1), .val (.ref a2)] [(.int c4), (.int (4 : Int32)), (.ref b84), (.ref b84), (.ref b82), (.ref b82)])) _
                refine st99 _ ?_
                show Steps p.tables e below (T99.setTop (mkF m 181 #[.val (.int p1), .val (.ref a2)] [(.ref b84), (.ref b82), (.ref b82)])) _
                refine st104.trans ?_
                show Steps p.tables e below (T104.setTop (mkF m 184 #[.val (.int p1), .val (.ref a2)] [(.ref b82)])) _
                jvm_step X104.here [X104.here.top, hx, (hb hby d1_184), X104.method', Bd.returns, Value.isRef, FieldType.isReference]
                first | (intro acts; rw [hr _ acts rfl rfl rfl]) | rw [hr _ _ rfl rfl rfl]
                exact Steps.refl _
              · show Q_rmT Z p1 a2 kd zc c0 c1 c2 c3 c4 c5 c6 c7 c8 h0 n0 _ T104.heap T104.vm _
                exact ⟨b82, t104, k104_, [c0, c1, c2, c3, c4], (5 : Int32), _, rfl, N104, K104, A104q, F104q, C104q, B104q, StrChars.Road.codOf (cs := [c0, c1, c2, c3, c4]) (n := 5) rfl (fun c hc => (hbb c hc).2), own_up hbb, (by show 5 ≤ 4000; decide), own_ib (X104.warmed.interned_eq.trans hin0)⟩
            · have pre105 : ∀ t, Steps p.tables e below (s₁.setTop (mkF m 188 #[.val (.int p1), .val (.ref a2)] [(.int (6 : Int32)), (.int p1)])) t → Steps p.tables e below (s₁.setTop (entryFrame m #[(.int p1), (.ref a2)] 2)) t := fun t k => pre80 t (by
                  show Steps p.tables e below (s₁.setTop (mkF m 141 #[.val (.int p1), .val (.ref a2)] [(.int (5 : Int32)), (.int p1)])) _
                  refine XS.icmpYes X0.here hx rfl (pc0 := 141) (pc' := 185) rfl (hb hby d1_141) rfl (feq hc81).2 (by decide) (by decide) ?_
                  show Steps p.tables e below (s₁.setTop (mkF m 185 #[.val (.int p1), .val (.ref a2)] [])) _
                  refine XS.iloadN X0.here hx rfl (hb hby d1_185) rfl ?_
                  show Steps p.tables e below (s₁.setTop (mkF m 186 #[.val (.int p1), .val (.ref a2)] [(.int p1)])) _
                  refine XS.bipush X0.here hx rfl (hb hby d1_186) ?_
                  exact k)
              by_cases hc106 : p1 = (6 : Int32)
              · obtain ⟨T107, h107, X107, e107, E107, A107, D107, -, st107⟩ := newO X0 hx hZ hown (hw _ (List.mem_of_getElem? (i := 7) rfl)) (hw _ (List.mem_of_getElem? (i := 8) rfl)) (hw _ (List.mem_of_getElem? (i := 9) rfl)) e0 (g := (mkF m 191 #[.val (.int p1), .val (.ref a2)] [])) rfl (hb hby d1_191) (by decide) (by decide)
                obtain ⟨b107, g107⟩ : ∃ z, z = h0.size := ⟨_, rfl⟩
                rw [← g107] at A107 D107 st107
                have ne_a2_b107 : a2 ≠ b107 := Nat.ne_of_lt (Nat.lt_of_lt_of_le V_a2.lt (Nat.le_of_eq g107.symm))
                have g_b107 : n0 ≤ b107 := Nat.le_trans Z0 (Nat.le_of_eq g107.symm)
                have sz_b107 : h0.size ≤ b107 := Nat.le_trans ((Keep.refl h0 [])).1 (Nat.le_of_eq g107.symm)
                have K107 : Keep h0 h107 [] := ((Keep.refl h0 [])).ext E107
                have F107_coder : Fld Z h107 b107 "java/lang/String" "coder" "B" (.int (0 : Int32)) := D107 (Or.inr (hw _ (List.mem_of_getElem? (i := 33) rfl))) (ty := .byte) (by decide)
                have F107_value : Fld Z h107 b107 "java/lang/String" "value" "[B" .null := D107 (Or.inr (hw _ (List.mem_of_getElem? (i := 35) rfl))) (ty := (.array .byte)) (by decide)
                have f108 := (V_a2.ext E107)
                obtain ⟨T109, h109, k109, X109, e109, E109, A109, st109⟩ := newP X107 hx hZ (hw _ (List.mem_of_getElem? (i := 1) rfl)) e107 (g := (mkF m 197 #[.val (.int p1), .val (.ref a2)] [(.int (6 : Int32)), (.ref b107), (.ref b107)])) rfl (hb hby d1_197) rfl (by decide) (cap := 6) (by decide) (by decide) (by decide) (by decide)
                obtain ⟨b109, g109⟩ : ∃ z, z = h107.size := ⟨_, rfl⟩
                rw [← g109] at A109 st109
                have ne_a2_b109 : a2 ≠ b109 := Nat.ne_of_lt (Nat.lt_of_lt_of_le f108.lt (Nat.le_of_eq g109.symm))
                have ne_b107_b109 : b107 ≠ b109 := Nat.ne_of_lt (Nat.lt_of_lt_of_le A107.lt (Nat.le_of_eq g109.symm))
                have V_b109 : Arv Z h109 b109 k109 .char (6 : Int32) [(.int (0 : Int32)), (.int (0 : Int32)), (.int (0 : Int32)), (.int (0 : Int32)), (.int (0 : Int32)), (.int (0 : Int32))] (.int (0 : Int32)) := (Arv.new A109 (by decide)).pad (pad_rep [] (.int (0 : Int32)) 6)
                have g_b109 : n0 ≤ b109 := Nat.le_trans (Nat.le_trans Z0 K107.1) (Nat.le_of_eq g109.symm)
                have sz_b109 : h0.size ≤ b109 := Nat.le_trans (K107).1 (Nat.le_of_eq g109.symm)
                have K109 : Keep h0 h109 [] := (K107).ext E109
                have f110 := (f108.ext E109)
                obtain ⟨cl111, Ar111, q111, S111, N111_, H111, G111⟩ := id f110
                obtain ⟨cl112, Ar112, q112, S112, N112_, H112, G112⟩ := id V_b109
                obtain ⟨T112, h112, X112, e112, W112, st112⟩ := stC X109 hx hZ e109 Ar112 (j := (0 : Int32)) (inb_of S112 ⟨by decide, by decide⟩) (g := (mkF m 204 #[.val (.int p1), .val (.ref a2)] [(.int c0), (.int (0 : Int32)), (.ref b109), (.ref b109), (.ref b107), (.ref b107)])) rfl rfl (hb hby d1_204)
                have V112 := Arv.set Ar112 q112 S112 N112_ H112 G112 (fits_nar_char _) W112 0 rfl (Nat.le_of_ble_eq_true rfl)
                have K112 : Keep h0 h112 [] := (K109).wr W112 (Or.inr sz_b109)
                have N112 := Fr.snoc X112 N0 g_b109
                have f113 := (f110.other W112 ne_a2_b109)
                obtain ⟨cl114, Ar114, q114, S114, N114_, H114, G114⟩ := id f113
                obtain ⟨cl115, Ar115, q115, S115, N115_, H115, G115⟩ := id V112
                obtain ⟨T115, h115, X115, e115, W115, st115⟩ := stC X112 hx hZ e112 Ar115 (j := (1 : Int32)) (inb_of S115 ⟨by decide, by decide⟩) (g := (mkF m 210 #[.val (.int p1), .val (.ref a2)] [(.int c1), (.int (1 : Int32)), (.ref b109), (.ref b109), (.ref b107), (.ref b107)])) rfl rfl (hb hby d1_210)
                have V115 := Arv.set Ar115 q115 S115 N115_ H115 G115 (fits_nar_char _) W115 1 rfl (Nat.le_of_ble_eq_true rfl)
                have K115 : Keep h0 h115 [] := (K112).wr W115 (Or.inr sz_b109)
                have N115 := Fr.snoc X115 N112 g_b109
                have f116 := (f113.other W115 ne_a2_b109)
                obtain ⟨cl117, Ar117, q117, S117, N117_, H117, G117⟩ := id f116
                obtain ⟨cl118, Ar118, q118, S118, N118_, H118, G118⟩ := id V115
                obtain ⟨T118, h118, X118, e118, W118, st118⟩ := stC X115 hx hZ e115 Ar118 (j := (2 : Int32)) (inb_of S118 ⟨by decide, by decide⟩) (g := (mkF m 216 #[.val (.int p1), .val (.ref a2)] [(.int c2), (.int (2 : Int32)), (.ref b109), (.ref b109), (.ref b107), (.ref b107)])) rfl rfl (hb hby d1_216)
                have V118 := Arv.set Ar118 q118 S118 N118_ H118 G118 (fits_nar_char _) W118 2 rfl (Nat.le_of_ble_eq_true rfl)
                have K118 : Keep h0 h118 [] := (K115).wr W118 (Or.inr sz_b109)
                have N118 := Fr.snoc X118 N115 g_b109
                have f119 := (f116.other W118 ne_a2_b109)
                obtain ⟨cl120, Ar120, q120, S120, N120_, H120, G120⟩ := id f119
                obtain ⟨cl121, Ar121, q121, S121, N121_, H121, G121⟩ := id V118
                obtain ⟨T121, h121, X121, e121, W121, st121⟩ := stC X118 hx hZ e118 Ar121 (j := (3 : Int32)) (inb_of S121 ⟨by decide, by decide⟩) (g := (mkF m 222 #[.val (.int p1), .val (.ref a2)] [(.int c3), (.int (3 : Int32)), (.ref b109), (.ref b109), (.ref b107), (.ref b107)])) rfl rfl (hb hby d1_222)
                have V121 := Arv.set Ar121 q121 S121 N121_ H121 G121 (fits_nar_char _) W121 3 rfl (Nat.le_of_ble_eq_true rfl)
                have K121 : Keep h0 h121 [] := (K118).wr W121 (Or.inr sz_b109)
                have N121 := Fr.snoc X121 N118 g_b109
                have f122 := (f119.other W121 ne_a2_b109)
                obtain ⟨cl123, Ar123, q123, S123, N123_, H123, G123⟩ := id f122
                obtain ⟨cl124, Ar124, q124, S124, N124_, H124, G124⟩ := id V121
                obtain ⟨T124, h124, X124, e124, W124, st124⟩ := stC X121 hx hZ e121 Ar124 (j := (4 : Int32)) (inb_of S124 ⟨by decide, by decide⟩) (g := (mkF m 228 #[.val (.int p1), .val (.ref a2)] [(.int c4), (.int (4 : Int32)), (.ref b109), (.ref b109), (.ref b107), (.ref b107)])) rfl rfl (hb hby d1_228)
                have V124 := Arv.set Ar124 q124 S124 N124_ H124 G124 (fits_nar_char _) W124 4 rfl (Nat.le_of_ble_eq_true rfl)
                have K124 : Keep h0 h124 [] := (K121).wr W124 (Or.inr sz_b109)
                have N124 := Fr.snoc X124 N121 g_b109
                have f125 := (f122.other W124 ne_a2_b109)
                obtain ⟨cl126, Ar126, q126, S126, N126_, H126, G126⟩ := id f125
                obtain ⟨cl127, Ar127, q127, S127, N127_, H127, G127⟩ := id V124
                obtain ⟨T127, h127, X127, e127, W127, st127⟩ := stC X124 hx hZ e124 Ar127 (j := (5 : Int32)) (inb_of S127 ⟨by decide, by decide⟩) (g := (mkF m 234 #[.val (.int p1), .val (.ref a2)] [(.int c5), (.int (5 : Int32)), (.ref b109), (.ref b109), (.ref b107), (.ref b107)])) rfl rfl (hb hby d1_234)
                have V127 := Arv.set Ar127 q127 S127 N127_ H127 G127 (fits_nar_char _) W127 5 rfl (Nat.le_of_ble_eq_true rfl)
                have K127 : Keep h0 h127 [] := (K124).wr W127 (Or.inr sz_b109)
                have N127 := Fr.snoc X127 N124 g_b109
                have f128 := (Exa.wr W127 (Exa.wr W124 (Exa.wr W121 (Exa.wr W118 (Exa.wr W115 (Exa.wr W112 (Exa.ext E109 A107)))))))
                have f129 := (Fld.other W127 (Fld.other W124 (Fld.other W121 (Fld.other W118 (Fld.other W115 (Fld.other W112 (Fld.ext E109 F107_value) (Or.inl ne_b107_b109)) (Or.inl ne_b107_b109)) (Or.inl ne_b107_b109)) (Or.inl ne_b107_b109)) (Or.inl ne_b107_b109)) (Or.inl ne_b107_b109))
                have f130 := (Fld.other W127 (Fld.other W124 (Fld.other W121 (Fld.other W118 (Fld.other W115 (Fld.other W112 (Fld.ext E109 F107_coder) (Or.inl ne_b107_b109)) (Or.inl ne_b107_b109)) (Or.inl ne_b107_b109)) (Or.inl ne_b107_b109)) (Or.inl ne_b107_b109)) (Or.inl ne_b107_b109))
                have V131 : Arv Z h127 b109 k109 .char (6 : Int32) (([c0, c1, c2, c3, c4, c5] : List Int32).map Value.int) (.int (0 : Int32)) := by have q := V127; simp only [own_narc hbn.1, own_narc hbn.2.1, own_narc hbn.2.2.1, own_narc hbn.2.2.2.1, own_narc hbn.2.2.2.2.1, own_narc hbn.2.2.2.2.2.1] at q; exact q
                have hbb : ∀ c ∈ ([c0, c1, c2, c3, c4, c5] : List Int32), ¬ c < 0 ∧ ¬ (255 : Int32) < c := by intro c hc; simp only [List.mem_cons, List.not_mem_nil, or_false] at hc; rcases hc with hc | hc | hc | hc | hc | hc <;> (subst hc; first | exact hbn.1 | exact hbn.2.1 | exact hbn.2.2.1 | exact hbn.2.2.2.1 | exact hbn.2.2.2.2.1 | exact hbn.2.2.2.2.2.1 | exact hbn.2.2.2.2.2.2.1 | exact hbn.2.2.2.2.2.2.2.1 | exact hbn.2.2.2.2.2.2.2.2)
                have hws : ∀ d ∈ StrChars.Road.words, d.before a0 Z = true := fun d hd => hw d ((by decide +kernel : ∀ d ∈ StrChars.Road.words, d ∈ tables_1) d hd)
                obtain ⟨_, _, ⟨T132, L132, k132, n132⟩, -, X132, ⟨Lc132, hQ132, l132, y132, z132⟩, st132⟩ := X127.specialBack hx (y := (⟨"java/lang/String", "<init>", "([C)V"⟩ : MethodName)) rfl hown (mvT hZ (hw _ (List.mem_of_getElem? (i := 10) rfl))) (mvT hZ (hw _ (List.mem_of_getElem? (i := 11) rfl))) (mvT hZ (hw _ (List.mem_of_getElem? (i := 12) rfl))) (by decide) (StrChars.Road.backV (W := 1) hZ hws (kI := 4) (hw _ (List.mem_of_getElem? (i := 8) rfl)) (cs := [c0, c1, c2, c3, c4, c5]) (bs := ([c0, c1, c2, c3, c4, c5] : List Int32).map (fun c => c.toInt8.toInt32)) (n := 6) g_b107 (Nat.le_trans Z0 K127.1) f128 f129 f130 V131 (Sta.ext (own_keep_ext K127) S_C) hzc rfl rfl (by decide) (by decide) hbb rfl (by decide) (by decide)) (g := (mkF m 235 #[.val (.int p1), .val (.ref a2)] [(.ref b109), (.ref b107), (.ref b107)])) rfl (by rw [hml]; rfl) (Steps.refl _) (a := b107) (argsL := [(.ref b109)]) (rest := [(.ref b107)]) (lenOf pd_rmT_0 rfl) rfl (by show 2 * 0 + _ ≤ _; exact Nat.le_of_eq rfl) (hb hby d1_235) (fun _ _ => ⟨rfl, e127, (by decide : 2 + 1 ≤ _), (by decide : 10 + 6 ≤ _)⟩)
                dsimp only [Pt.U, Pt.locs, Pt.cells, Pt.slots] at X132 l132 y132 z132 st132 hQ132
                subst l132 y132 z132
                obtain ⟨rfl, N132q, K132q, A132q, C132q, t132, k132_, g1321, g1322, g1323, F132q, B132q⟩ := hQ132
                have N132 := Fr.app N127 N132q
                have K132 : Keep h0 T132.heap [] := (K127).trans K132q (allS (Or.inr sz_b107) all0)
                obtain ⟨fs, hr, hrun, hended, hRW⟩ := Jvm.Stand.leaveW (s := s) (vm₁ := s.vm) X132 hS0 (show _ ≤ T132.heap.size by exact (Nat.le_trans (Nat.le_trans (Nat.le_trans (Nat.le_trans (Nat.le_trans (Nat.le_trans (Nat.le_trans (Nat.le_trans (Nat.le_trans (Nat.zero_le _) (E107).1) (E109).1) (Keep.of_wr W112).1) (Keep.of_wr W115).1) (Keep.of_wr W118).1) (Keep.of_wr W121).1) (Keep.of_wr W124).1) (Keep.of_wr W127).1) (K132q).1)) (v := some (.ref b107)) (fun h => by rw [Bd.returns] at h; cases h)
                refine ⟨_, _, pre105 _ ?_, hrun, hended, _, _, rfl, ?_, hRW.1, hRW.2.1, hRW.2.2.1, hRW.2.2.2.mono (by decide) (by decide)⟩
                · show Steps p.tables e below (s₁.setTop (mkF m 188 #[.val (.int p1), .val (.ref a2)] [(.int (6 : Int32)), (.int p1)])) _
                  refine XS.icmpNo X0.here hx rfl (hb hby d1_188) rfl (teq hc106).2 ?_
                  show Steps p.tables e below (s₁.setTop (mkF m 191 #[.val (.int p1), .val (.ref a2)] [])) _
                  refine st107 _ ?_
                  show Steps p.tables e below (T107.setTop (mkF m 194 #[.val (.int p1), .val (.ref a2)] [(.ref b107)])) _
                  refine XS.dup X107.here hx rfl (hb hby d1_194) rfl rfl ?_
                  show Steps p.tables e below (T107.setTop (mkF m 195 #[.val (.int p1), .val (.ref a2)] [(.ref b107), (.ref b107)])) _
                  refine XS.bipush X107.here hx rfl (hb hby d1_195) ?_
                  show Steps p.tables e below (T107.setTop (mkF m 197 #[.val (.int p1), .val (.ref a2)] [(.int (6 : Int32)), (.ref b107), (.ref b107)])) _
                  refine st109 _ ?_
                  show Steps p.tables e below (T109.setTop (mkF m 199 #[.val (.int p1), .val (.ref a2)] [(.ref b109), (.ref b107), (.ref b107)])) _
                  refine XS.dup X109.here hx rfl (hb hby d1_199) rfl rfl ?_
                  show Steps p.tables e below (T109.setTop (mkF m 200 #[.val (.int p1), .val (.ref a2)] [(.ref b109), (.ref b109), (.ref b107), (.ref b107)])) _
                  refine XS.iconst X109.here hx rfl (hb hby d1_200) ?_
                  show Steps p.tables e below (T109.setTop (mkF m 201 #[.val (.int p1), .val (.ref a2)] [(.int (0 : Int32)), (.ref b109), (.ref b109), (.ref b107), (.ref b107)])) _
                  refine XS.aloadN X109.here hx rfl (hb hby d1_201) rfl rfl ?_
                  show Steps p.tables e below (T109.setTop (mkF m 202 #[.val (.int p1), .val (.ref a2)] [(.ref a2), (.int (0 : Int32)), (.ref b109), (.ref b109), (.ref b107), (.ref b107)])) _
                  refine XS.iconst X109.here hx rfl (hb hby d1_202) ?_
                  show Steps p.tables e below (T109.setTop (mkF m 203 #[.val (.int p1), .val (.ref a2)] [(.int (0 : Int32)), (.ref a2), (.int (0 : Int32)), (.ref b109), (.ref b109), (.ref b107), (.ref b107)])) _
                  refine X109.caload hx (j := (0 : Int32)) (v := (.int c0)) (by rw [e109]; exact Ar111.1) (State.isArrayOf_alike hZ.alike Ar111.2.1) Ar111.2.2 (inb_of S111 ⟨by decide, by decide⟩) (show cl111.slots[((0 : Int32)).toNatClampNeg]? = some (.int c0) from H111 0 (by rw [S111]; decide)) (g := (mkF m 203 #[.val (.int p1), .val (.ref a2)] [(.int (0 : Int32)), (.ref a2), (.int (0 : Int32)), (.ref b109), (.ref b109), (.ref b107), (.ref b107)])) rfl rfl (hb hby d1_203) _ ?_
                  show Steps p.tables e below (T109.setTop (mkF m 204 #[.val (.int p1), .val (.ref a2)] [(.int c0), (.int (0 : Int32)), (.ref b109), (.ref b109), (.ref b107), (.ref b107)])) _
                  refine st112 _ ?_
                  show Steps p.tables e below (T112.setTop (mkF m 205 #[.val (.int p1), .val (.ref a2)] [(.ref b109), (.ref b107), (.ref b107)])) _
                  refine XS.dup X112.here hx rfl (hb hby d1_205) rfl rfl ?_
                  show Steps p.tables e below (T112.setTop (mkF m 206 #[.val (.int p1), .val (.ref a2)] [(.ref b109), (.ref b109), (.ref b107), (.ref b107)])) _
                  refine XS.iconst X112.here hx rfl (hb hby d1_206) ?_
                  show Steps p.tables e below (T112.setTop (mkF m 207 #[.val (.int p1), .val (.ref a2)] [(.int (1 : Int32)), (.ref b109), (.ref b109), (.ref b107), (.ref b107)])) _
                  refine XS.aloadN X112.here hx rfl (hb hby d1_207) rfl rfl ?_
                  show Steps p.tables e below (T112.setTop (mkF m 208 #[.val (.int p1), .val (.ref a2)] [(.ref a2), (.int (1 : Int32)), (.ref b109), (.ref b109), (.ref b107), (.ref b107)])) _
                  refine XS.iconst X112.here hx rfl (hb hby d1_208) ?_
                  show Steps p.tables e below (T112.setTop (mkF m 209 #[.val (.int p1), .val (.ref a2)] [(.int (1 : Int32)), (.ref a2), (.int (1 : Int32)), (.ref b109), (.ref b109), (.ref b107), (.ref b107)])) _
                  refine X112.caload hx (j := (1 : Int32)) (v := (.int c1)) (by rw [e112]; exact Ar114.1) (State.isArrayOf_alike hZ.alike Ar114.2.1) Ar114.2.2 (inb_of S114 ⟨by decide, by decide⟩) (show cl114.slots[((1 : Int32)).toNatClampNeg]? = some (.int c1) from H114 1 (by rw [S114]; decide)) (g := (mkF m 209 #[.val (.int p1), .val (.ref a2)] [(.int (1 : Int32)), (.ref a2), (.int (1 : Int32)), (.ref b109), (.ref b109), (.ref b107), (.ref b107)])) rfl rfl (hb hby d1_209) _ ?_
                  show Steps p.tables e below (T112.setTop (mkF m 210 #[.val (.int p1), .val (.ref a2)] [(.int c1), (.int (1 : Int32)), (.ref b109), (.ref b109), (.ref b107), (.ref b107)])) _
                  refine st115 _ ?_
                  show Steps p.tables e below (T115.setTop (mkF m 211 #[.val (.int p1), .val (.ref a2)] [(.ref b109), (.ref b107), (.ref b107)])) _
                  refine XS.dup X115.here hx rfl (hb hby d1_211) rfl rfl ?_
                  show Steps p.tables e below (T115.setTop (mkF m 212 #[.val (.int p1), .val (.ref a2)] [(.ref b109), (.ref b109), (.ref b107), (.ref b107)])) _
                  refine XS.iconst X115.here hx rfl (hb hby d1_212) ?_
                  show Steps p.tables e below (T115.setTop (mkF m 213 #[.val (.int p1), .val (.ref a2)] [(.int (2 : Int32)), (.ref b109), (.ref b109), (.ref b107), (.ref b107)])) _
                  refine XS.aloadN X115.here hx rfl (hb hby d1_213) rfl rfl ?_
                  show Steps p.tables e below (T115.setTop (mkF m 214 #[.val (.int p1), .val (.ref a2)] [(.ref a2), (.int (2 : Int32)), (.ref b109), (.ref b109), (.ref b107), (.ref b107)])) _
                  refine XS.iconst X115.here hx rfl (hb hby d1_214) ?_
                  show Steps p.tables e below (T115.setTop (mkF m 215 #[.val (.int p1), .val (.ref a2)] [(.int (2 : Int32)), (.ref a2), (.int (2 : Int32)), (.ref b109), (.ref b109), (.ref b107), (.ref b107)])) _
                  refine X115.caload hx (j := (2 : Int32)) (v := (.int c2)) (by rw [e115]; exact Ar117.1) (State.isArrayOf_alike hZ.alike Ar117.2.1) Ar117.2.2 (inb_of S117 ⟨by decide, by decide⟩) (show cl117.slots[((2 : Int32)).toNatClampNeg]? = some (.int c2) from H117 2 (by rw [S117]; decide)) (g := (mkF m 215 #[.val (.int p1), .val (.ref a2)] [(.int (2 : Int32)), (.ref a2), (.int (2 : Int32)), (.ref b109), (.ref b109), (.ref b107), (.ref b107)])) rfl rfl (hb hby d1_215) _ ?_
                  show Steps p.tables e below (T115.setTop (mkF m 216 #[.val (.int p1), .val (.ref a2)] [(.int c2), (.int (2 : Int32)), (.ref b109), (.ref b109), (.ref b107), (.ref b107)])) _
                  refine st118 _ ?_
                  show Steps p.tables e below (T118.setTop (mkF m 217 #[.val (.int p1), .val (.ref a2)] [(.ref b109), (.ref b107), (.ref b107)])) _
                  refine XS.dup X118.here hx rfl (hb hby d1_217) rfl rfl ?_
                  show Steps p.tables e below (T118.setTop (mkF m 218 #[.val (.int p1), .val (.ref a2)] [(.ref b109), (.ref b109), (.ref b107), (.ref b107)])) _
                  refine XS.iconst X118.here hx rfl (hb hby d1_218) ?_
                  show Steps p.tables e below (T118.setTop (mkF m 219 #[.val (.int p1), .val (.ref a2)] [(.int (3 : Int32)), (.ref b109), (.ref b109), (.ref b107), (.ref b107)])) _
                  refine XS.aloadN X118.here hx rfl (hb hby d1_219) rfl rfl ?_
                  show Steps p.tables e below (T118.setTop (mkF m 220 #[.val (.int p1), .val (.ref a2)] [(.ref a2), (.int (3 : Int32)), (.ref b109), (.ref b109), (.ref b107), (.ref b107)])) _
                  refine XS.iconst X118.here hx rfl (hb hby d1_220) ?_
                  show Steps p.tables e below (T118.setTop (mkF m 221 #[.val (.int p1), .val (.ref a2)] [(.int (3 : Int32)), (.ref a2), (.int (3 : Int32)), (.ref b109), (.ref b109), (.ref b107), (.ref b107)])) _
                  refine X118.caload hx (j := (3 : Int32)) (v := (.int c3)) (by rw [e118]; exact Ar120.1) (State.isArrayOf_alike hZ.alike Ar120.2.1) Ar120.2.2 (inb_of S120 ⟨by decide, by decide⟩) (show cl120.slots[((3 : Int32)).toNatClampNeg]? = some (.int c3) from H120 3 (by rw [S120]; decide)) (g := (mkF m 221 #[.val (.int p1), .val (.ref a2)] [(.int (3 : Int32)), (.ref a2), (.int (3 : Int32)), (.ref b109), (.ref b109), (.ref b107), (.ref b107)])) rfl rfl (hb hby d1_221) _ ?_
                  show Steps p.tables e below (T118.setTop (mkF m 222 #[.val (.int p1), .val (.ref a2)] [(.int c3), (.int (3 : Int32)), (.ref b109), (.ref b109), (.ref b107), (.ref b107)])) _
                  refine st121 _ ?_
                  show Steps p.tables e below (T121.setTop (mkF m 223 #[.val (.int p1), .val (.ref a2)] [(.ref b109), (.ref b107), (.ref b107)])) _
                  refine XS.dup X121.here hx rfl (hb hby d1_223) rfl rfl ?_
                  show Steps p.tables e below (T121.setTop (mkF m 224 #[.val (.int p1), .val (.ref a2)] [(.ref b109), (.ref b109), (.ref b107), (.ref b107)])) _
                  refine XS.iconst X121.here hx rfl (hb hby d1_224) ?_
                  show Steps p.tables e below (T121.setTop (mkF m 225 #[.val (.int p1), .val (.ref a2)] [(.int (4 : Int32)), (.ref b109), (.ref b109), (.ref b107), (.ref b107)])) _
                  refine XS.aloadN X121.here hx rfl (hb hby d1_225) rfl rfl ?_
                  show Steps p.tables e below (T121.setTop (mkF m 226 #[.val (.int p1), .val (.ref a2)] [(.ref a2), (.int (4 : Int32)), (.ref b109), (.ref b109), (.ref b107), (.ref b107)])) _
                  refine XS.iconst X121.here hx rfl (hb hby d1_226) ?_
                  show Steps p.tables e below (T121.setTop (mkF m 227 #[.val (.int p1), .val (.ref a2)] [(.int (4 : Int32)), (.ref a2), (.int (4 : Int32)), (.ref b109), (.ref b109), (.ref b107), (.ref b107)])) _
                  refine X121.caload hx (j := (4 : Int32)) (v := (.int c4)) (by rw [e121]; exact Ar123.1) (State.isArrayOf_alike hZ.alike Ar123.2.1) Ar123.2.2 (inb_of S123 ⟨by decide, by decide⟩) (show cl123.slots[((4 : Int32)).toNatClampNeg]? = some (.int c4) from H123 4 (by rw [S123]; decide)) (g := (mkF m 227 #[.val (.int p1), .val (.ref a2)] [(.int (4 : Int32)), (.ref a2), (.int (4 : Int32)), (.ref b109), (.ref b109), (.ref b107), (.ref b107)])) rfl rfl (hb hby d1_227) _ ?_
                  show Steps p.tables e below (T121.setTop (mkF m 228 #[.val (.int p1), .val (.ref a2)] [(.int c4), (.int (4 : Int32)), (.ref b109), (.ref b109), (.ref b107), (.ref b107)])) _
                  refine st124 _ ?_
                  show Steps p.tables e below (T124.setTop (mkF m 229 #[.val (.int p1), .val (.ref a2)] [(.ref b109), (.ref b107), (.ref b107)])) _
                  refine XS.dup X124.here hx rfl (hb hby d1_229) rfl rfl ?_
                  show Steps p.tables e below (T124.setTop (mkF m 230 #[.val (.int p1), .val (.ref a2)] [(.ref b109), (.ref b109), (.ref b107), (.ref b107)])) _
                  refine XS.iconst X124.here hx rfl (hb hby d1_230) ?_
                  show Steps p.tables e below (T124.setTop (mkF m 231 #[.val (.int p1), .val (.ref a2)] [(.int (5 : Int32)), (.ref b109), (.ref b109), (.ref b107), (.ref b107)])) _
                  refine XS.aloadN X124.here hx rfl (hb hby d1_231) rfl rfl ?_
                  show Steps p.tables e below (T124.setTop (mkF m 232 #[.val (.int p1), .val (.ref a2)] [(.ref a2), (.int (5 : Int32)), (.ref b109), (.ref b109), (.ref b107), (.ref b107)])) _
                  refine XS.iconst X124.here hx rfl (hb hby d1_232) ?_
                  show Steps p.tables e below (T124.setTop (mkF m 233 #[.val (.int p1), .val (.ref a2)] [(.int (5 : Int32)), (.ref a2), (.int (5 : Int32)), (.ref b109), (.ref b109), (.ref b107), (.ref b107)])) _
                  refine X124.caload hx (j := (5 : Int32)) (v := (.int c5)) (by rw [e124]; exact Ar126.1) (State.isArrayOf_alike hZ.alike Ar126.2.1) Ar126.2.2 (inb_of S126 ⟨by decide, by decide⟩) (show cl126.slots[((5 : Int32)).toNatClampNeg]? = some (.int c5) from H126 5 (by rw [S126]; decide)) (g := (mkF m 233 #[.val (.int p1), .val (.ref a2)] [(.int (5 : Int32)), (.ref a2), (.int (5 : Int32)), (.ref b109), (.ref b109), (.ref b107), (.ref b107)])) rfl rfl (hb hby d1_233) _ ?_
                  show Steps p.tables e below (T124.setTop (mkF m 234 #[.val (.int p1), .val (.ref a2)] [(.int c5), (.int (5 : Int32)), (.ref b109), (.ref b109), (.ref b107), (.ref b107)])) _
                  refine st127 _ ?_
                  show Steps p.tables e below (T127.setTop (mkF m 235 #[.val (.int p1), .val (.ref a2)] [(.ref b109), (.ref b107), (.ref b107)])) _
                  refine st132.trans ?_
                  show Steps p.tables e below (T132.setTop (mkF m 238 #[.val (.int p1), .val (.ref a2)] [(.ref b107)])) _
                  jvm_step X132.here [X132.here.top, hx, (hb hby d1_238), X132.method', Bd.returns, Value.isRef, FieldType.isReference]
                  first | (intro acts; rw [hr _ acts rfl rfl rfl]) | rw [hr _ _ rfl rfl rfl]
                  exact Steps.refl _
                · show Q_rmT Z p1 a2 kd zc c0 c1 c2 c3 c4 c5 c6 c7 c8 h0 n0 _ T132.heap T132.vm _
                  exact ⟨b107, t132, k132_, [c0, c1, c2, c3, c4, c5], (6 : Int32), _, rfl, N132, K132, A132q, F132q, C132q, B132q, StrChars.Road.codOf (cs := [c0, c1, c2, c3, c4, c5]) (n := 6) rfl (fun c hc => (hbb c hc).2), own_up hbb, (by show 6 ≤ 4000; decide), own_ib (X132.warmed.interned_eq.trans hin0)⟩
              · have pre133 : ∀ t, Steps p.tables e below (s₁.setTop (mkF m 242 #[.val (.int p1), .val (.ref a2)] [(.int (7 : Int32)), (.int p1)])) t → Steps p.tables e below (s₁.setTop (entryFrame m #[(.int p1), (.ref a2)] 2)) t := fun t k => pre105 t (by
                    show Steps p.tables e below (s₁.setTop (mkF m 188 #[.val (.int p1), .val (.ref a2)] [(.int (6 : Int32)), (.int p1)])) _
                    refine XS.icmpYes X0.here hx rfl (pc0 := 188) (pc' := 239) rfl (hb hby d1_188) rfl (feq hc106).2 (by decide) (by decide) ?_
                    show Steps p.tables e below (s₁.setTop (mkF m 239 #[.val (.int p1), .val (.ref a2)] [])) _
                    refine XS.iloadN X0.here hx rfl (hb hby d1_239) rfl ?_
                    show Steps p.tables e below (s₁.setTop (mkF m 240 #[.val (.int p1), .val (.ref a2)] [(.int p1)])) _
                    refine XS.bipush X0.here hx rfl (hb hby d1_240) ?_
                    exact k)
                by_cases hc134 : p1 = (7 : Int32)
                · obtain ⟨T135, h135, X135, e135, E135, A135, D135, -, st135⟩ := newO X0 hx hZ hown (hw _ (List.mem_of_getElem? (i := 7) rfl)) (hw _ (List.mem_of_getElem? (i := 8) rfl)) (hw _ (List.mem_of_getElem? (i := 9) rfl)) e0 (g := (mkF m 245 #[.val (.int p1), .val (.ref a2)] [])) rfl (hb hby d1_245) (by decide) (by decide)
                  obtain ⟨b135, g135⟩ : ∃ z, z = h0.size := ⟨_, rfl⟩
                  rw [← g135] at A135 D135 st135
                  have ne_a2_b135 : a2 ≠ b135 := Nat.ne_of_lt (Nat.lt_of_lt_of_le V_a2.lt (Nat.le_of_eq g135.symm))
                  have g_b135 : n0 ≤ b135 := Nat.le_trans Z0 (Nat.le_of_eq g135.symm)
                  have sz_b135 : h0.size ≤ b135 := Nat.le_trans ((Keep.refl h0 [])).1 (Nat.le_of_eq g135.symm)
                  have K135 : Keep h0 h135 [] := ((Keep.refl h0 [])).ext E135
                  have F135_coder : Fld Z h135 b135 "java/lang/String" "coder" "B" (.int (0 : Int32)) := D135 (Or.inr (hw _ (List.mem_of_getElem? (i := 33) rfl))) (ty := .byte) (by decide)
                  have F135_value : Fld Z h135 b135 "java/lang/String" "value" "[B" .null := D135 (Or.inr (hw _ (List.mem_of_getElem? (i := 35) rfl))) (ty := (.array .byte)) (by decide)
                  have f136 := (V_a2.ext E135)
                  obtain ⟨T137, h137, k137, X137, e137, E137, A137, st137⟩ := newP X135 hx hZ (hw _ (List.mem_of_getElem? (i := 1) rfl)) e135 (g := (mkF m 251 #[.val (.int p1), .val (.ref a2)] [(.int (7 : Int32)), (.ref b135), (.ref b135)])) rfl (hb hby d1_251) rfl (by decide) (cap := 7) (by decide) (by decide) (by decide) (by decide)
                  obtain ⟨b137, g137⟩ : ∃ z, z = h135.size := ⟨_, rfl⟩
                  rw [← g137] at A137 st137
                  have ne_a2_b137 : a2 ≠ b137 := Nat.ne_of_lt (Nat.lt_of_lt_of_le f136.lt (Nat.le_of_eq g137.symm))
                  have ne_b135_b137 : b135 ≠ b137 := Nat.ne_of_lt (Nat.lt_of_lt_of_le A135.lt (Nat.le_of_eq g137.symm))
                  have V_b137 : Arv Z h137 b137 k137 .char (7 : Int32) [(.int (0 : Int32)), (.int (0 : Int32)), (.int (0 : Int32)), (.int (0 : Int32)), (.int (0 : Int32)), (.int (0 : Int32)), (.int (0 : Int32))] (.int (0 : Int32)) := (Arv.new A137 (by decide)).pad (pad_rep [] (.int (0 : Int32)) 7)
                  have g_b137 : n0 ≤ b137 := Nat.le_trans (Nat.le_trans Z0 K135.1) (Nat.le_of_eq g137.symm)
                  have sz_b137 : h0.size ≤ b137 := Nat.le_trans (K135).1 (Nat.le_of_eq g137.symm)
                  have K137 : Keep h0 h137 [] := (K135).ext E137
                  have f138 := (f136.ext E137)
                  obtain ⟨cl139, Ar139, q139, S139, N139_, H139, G139⟩ := id f138
                  obtain ⟨cl140, Ar140, q140, S140, N140_, H140, G140⟩ := id V_b137
                  obtain ⟨T140, h140, X140, e140, W140, st140⟩ := stC X137 hx hZ e137 Ar140 (j := (0 : Int32)) (inb_of S140 ⟨by decide, by decide⟩) (g := (mkF m 258 #[.val (.int p1), .val (.ref a2)] [(.int c0), (.int (0 : Int32)), (.ref b137), (.ref b137), (.ref b135), (.ref b135)])) rfl rfl (hb hby d1_258)
                  have V140 := Arv.set Ar140 q140 S140 N140_ H140 G140 (fits_nar_char _) W140 0 rfl (Nat.le_of_ble_eq_true rfl)
                  have K140 : Keep h0 h140 [] := (K137).wr W140 (Or.inr sz_b137)
                  have N140 := Fr.snoc X140 N0 g_b137
                  have f141 := (f138.other W140 ne_a2_b137)
                  obtain ⟨cl142, Ar142, q142, S142, N142_, H142, G142⟩ := id f141
                  obtain ⟨cl143, Ar143, q143, S143, N143_, H143, G143⟩ := id V140
                  obtain ⟨T143, h143, X143, e143, W143, st143⟩ := stC X140 hx hZ e140 Ar143 (j := (1 : Int32)) (inb_of S143 ⟨by decide, by decide⟩) (g := (mkF m 264 #[.val (.int p1), .val (.ref a2)] [(.int c1), (.int (1 : Int32)), (.ref b137), (.ref b137), (.ref b135), (.ref b135)])) rfl rfl (hb hby d1_264)
                  have V143 := Arv.set Ar143 q143 S143 N143_ H143 G143 (fits_nar_char _) W143 1 rfl (Nat.le_of_ble_eq_true rfl)
                  have K143 : Keep h0 h143 [] := (K140).wr W143 (Or.inr sz_b137)
                  have N143 := Fr.snoc X143 N140 g_b137
                  have f144 := (f141.other W143 ne_a2_b137)
                  obtain ⟨cl145, Ar145, q145, S145, N145_, H145, G145⟩ := id f144
                  obtain ⟨cl146, Ar146, q146, S146, N146_, H146, G146⟩ := id V143
                  obtain ⟨T146, h146, X146, e146, W146, st146⟩ := stC X143 hx hZ e143 Ar146 (j := (2 : Int32)) (inb_of S146 ⟨by decide, by decide⟩) (g := (mkF m 270 #[.val (.int p1), .val (.ref a2)] [(.int c2), (.int (2 : Int32)), (.ref b137), (.ref b137), (.ref b135), (.ref b135)])) rfl rfl (hb hby d1_270)
                  have V146 := Arv.set Ar146 q146 S146 N146_ H146 G146 (fits_nar_char _) W146 2 rfl (Nat.le_of_ble_eq_true rfl)
                  have K146 : Keep h0 h146 [] := (K143).wr W146 (Or.inr sz_b137)
                  have N146 := Fr.snoc X146 N143 g_b137
                  have f147 := (f144.other W146 ne_a2_b137)
                  obtain ⟨cl148, Ar148, q148, S148, N148_, H148, G148⟩ := id f147
                  obtain ⟨cl149, Ar149, q149, S149, N149_, H149, G149⟩ := id V146
                  obtain ⟨T149, h149, X149, e149, W149, st149⟩ := stC X146 hx hZ e146 Ar149 (j := (3 : Int32)) (inb_of S149 ⟨by decide, by decide⟩) (g := (mkF m 276 #[.val (.int p1), .val (.ref a2)] [(.int c3), (.int (3 : Int32)), (.ref b137), (.ref b137), (.ref b135), (.ref b135)])) rfl rfl (hb hby d1_276)
                  have V149 := Arv.set Ar149 q149 S149 N149_ H149 G149 (fits_nar_char _) W149 3 rfl (Nat.le_of_ble_eq_true rfl)
                  have K149 : Keep h0 h149 [] := (K146).wr W149 (Or.inr sz_b137)
                  have N149 := Fr.snoc X149 N146 g_b137
                  have f150 := (f147.other W149 ne_a2_b137)
                  obtain ⟨cl151, Ar151, q151, S151, N151_, H151, G151⟩ := id f150
                  obtain ⟨cl152, Ar152, q152, S152, N152_, H152, G152⟩ := id V149
                  obtain ⟨T152, h152, X152, e152, W152, st152⟩ := stC X149 hx hZ e149 Ar152 (j := (4 : Int32)) (inb_of S152 ⟨by decide, by decide⟩) (g := (mkF m 282 #[.val (.int p1), .val (.ref a2)] [(.int c4), (.int (4 : Int32)), (.ref b137), (.ref b137), (.ref b135), (.ref b135)])) rfl rfl (hb hby d1_282)
                  have V152 := Arv.set Ar152 q152 S152 N152_ H152 G152 (fits_nar_char _) W152 4 rfl (Nat.le_of_ble_eq_true rfl)
                  have K152 : Keep h0 h152 [] := (K149).wr W152 (Or.inr sz_b137)
                  have N152 := Fr.snoc X152 N149 g_b137
                  have f153 := (f150.other W152 ne_a2_b137)
                  obtain ⟨cl154, Ar154, q154, S154, N154_, H154, G154⟩ := id f153
                  obtain ⟨cl155, Ar155, q155, S155, N155_, H155, G155⟩ := id V152
                  obtain ⟨T155, h155, X155, e155, W155, st155⟩ := stC X152 hx hZ e152 Ar155 (j := (5 : Int32)) (inb_of S155 ⟨by decide, by decide⟩) (g := (mkF m 288 #[.val (.int p1), .val (.ref a2)] [(.int c5), (.int (5 : Int32)), (.ref b137), (.ref b137), (.ref b135), (.ref b135)])) rfl rfl (hb hby d1_288)
                  have V155 := Arv.set Ar155 q155 S155 N155_ H155 G155 (fits_nar_char _) W155 5 rfl (Nat.le_of_ble_eq_true rfl)
                  have K155 : Keep h0 h155 [] := (K152).wr W155 (Or.inr sz_b137)
                  have N155 := Fr.snoc X155 N152 g_b137
                  have f156 := (f153.other W155 ne_a2_b137)
                  obtain ⟨cl157, Ar157, q157, S157, N157_, H157, G157⟩ := id f156
                  obtain ⟨cl158, Ar158, q158, S158, N158_, H158, G158⟩ := id V155
                  obtain ⟨T158, h158, X158, e158, W158, st158⟩ := stC X155 hx hZ e155 Ar158 (j := (6 : Int32)) (inb_of S158 ⟨by decide, by decide⟩) (g := (mkF m 296 #[.val (.int p1), .val (.ref a2)] [(.int c6), (.int (6 : Int32)), (.ref b137), (.ref b137), (.ref b135), (.ref b135)])) rfl rfl (hb hby d1_296)
                  have V158 := Arv.set Ar158 q158 S158 N158_ H158 G158 (fits_nar_char _) W158 6 rfl (Nat.le_of_ble_eq_true rfl)
                  have K158 : Keep h0 h158 [] := (K155).wr W158 (Or.inr sz_b137)
                  have N158 := Fr.snoc X158 N155 g_b137
                  have f159 := (Exa.wr W158 (Exa.wr W155 (Exa.wr W152 (Exa.wr W149 (Exa.wr W146 (Exa.wr W143 (Exa.wr W140 (Exa.ext E137 A135))))))))
                  have f160 := (Fld.other W158 (Fld.other W155 (Fld.other W152 (Fld.other W149 (Fld.other W146 (Fld.other W143 (Fld.other W140 (Fld.ext E137 F135_value) (Or.inl ne_b135_b137)) (Or.inl ne_b135_b137)) (Or.inl ne_b135_b137)) (Or.inl ne_b135_b137)) (Or.inl ne_b135_b137)) (Or.inl ne_b135_b137)) (Or.inl ne_b135_b137))
                  have f161 := (Fld.other W158 (Fld.other W155 (Fld.other W152 (Fld.other W149 (Fld.other W146 (Fld.other W143 (Fld.other W140 (Fld.ext E137 F135_coder) (Or.inl ne_b135_b137)) (Or.inl ne_b135_b137)) (Or.inl ne_b135_b137)) (Or.inl ne_b135_b137)) (Or.inl ne_b135_b137)) (Or.inl ne_b135_b137)) (Or.inl ne_b135_b137))
                  have V162 : Arv Z h158 b137 k137 .char (7 : Int32) (([c0, c1, c2, c3, c4, c5, c6] : List Int32).map Value.int) (.int (0 : Int32)) := by have q := V158; simp only [own_narc hbn.1, own_narc hbn.2.1, own_narc hbn.2.2.1, own_narc hbn.2.2.2.1, own_narc hbn.2.2.2.2.1, own_narc hbn.2.2.2.2.2.1, own_narc hbn.2.2.2.2.2.2.1] at q; exact q
                  have hbb : ∀ c ∈ ([c0, c1, c2, c3, c4, c5, c6] : List Int32), ¬ c < 0 ∧ ¬ (255 : Int32) < c := by intro c hc; simp only [List.mem_cons, List.not_mem_nil, or_false] at hc; rcases hc with hc | hc | hc | hc | hc | hc | hc <;> (subst hc; first | exact hbn.1 | exact hbn.2.1 | exact hbn.2.2.1 | exact hbn.2.2.2.1 | exact hbn.2.2.2.2.1 | exact hbn.2.2.2.2.2.1 | exact hbn.2.2.2.2.2.2.1 | exact hbn.2.2.2.2.2.2.2.1 | exact hbn.2.2.2.2.2.2.2.2)
                  have hws : ∀ d ∈ StrChars.Road.words, d.before a0 Z = true := fun d hd => hw d ((by decide +kernel : ∀ d ∈ StrChars.Road.words, d ∈ tables_1) d hd)
                  obtain ⟨_, _, ⟨T163, L163, k163, n163⟩, -, X163, ⟨Lc163, hQ163, l163, y163, z163⟩, st163⟩ := X158.specialBack hx (y := (⟨"java/lang/String", "<init>", "([C)V"⟩ : MethodName)) rfl hown (mvT hZ (hw _ (List.mem_of_getElem? (i := 10) rfl))) (mvT hZ (hw _ (List.mem_of_getElem? (i := 11) rfl))) (mvT hZ (hw _ (List.mem_of_getElem? (i := 12) rfl))) (by decide) (StrChars.Road.backV (W := 1) hZ hws (kI := 4) (hw _ (List.mem_of_getElem? (i := 8) rfl)) (cs := [c0, c1, c2, c3, c4, c5, c6]) (bs := ([c0, c1, c2, c3, c4, c5, c6] : List Int32).map (fun c => c.toInt8.toInt32)) (n := 7) g_b135 (Nat.le_trans Z0 K158.1) f159 f160 f161 V162 (Sta.ext (own_keep_ext K158) S_C) hzc rfl rfl (by decide) (by decide) hbb rfl (by decide) (by decide)) (g := (mkF m 297 #[.val (.int p1), .val (.ref a2)] [(.ref b137), (.ref b135), (.ref b135)])) rfl (by rw [hml]; rfl) (Steps.refl _) (a := b135) (argsL := [(.ref b137)]) (rest := [(.ref b135)]) (lenOf pd_rmT_0 rfl) rfl (by show 2 * 0 + _ ≤ _; exact Nat.le_of_eq rfl) (hb hby d1_297) (fun _ _ => ⟨rfl, e158, (by decide : 2 + 1 ≤ _), (by decide : 11 + 7 ≤ _)⟩)
                  dsimp only [Pt.U, Pt.locs, Pt.cells, Pt.slots] at X163 l163 y163 z163 st163 hQ163
                  subst l163 y163 z163
                  obtain ⟨rfl, N163q, K163q, A163q, C163q, t163, k163_, g1631, g1632, g1633, F163q, B163q⟩ := hQ163
                  have N163 := Fr.app N158 N163q
                  have K163 : Keep h0 T163.heap [] := (K158).trans K163q (allS (Or.inr sz_b135) all0)
                  obtain ⟨fs, hr, hrun, hended, hRW⟩ := Jvm.Stand.leaveW (s := s) (vm₁ := s.vm) X163 hS0 (show _ ≤ T163.heap.size by exact (Nat.le_trans (Nat.le_trans (Nat.le_trans (Nat.le_trans (Nat.le_trans (Nat.le_trans (Nat.le_trans (Nat.le_trans (Nat.le_trans (Nat.le_trans (Nat.zero_le _) (E135).1) (E137).1) (Keep.of_wr W140).1) (Keep.of_wr W143).1) (Keep.of_wr W146).1) (Keep.of_wr W149).1) (Keep.of_wr W152).1) (Keep.of_wr W155).1) (Keep.of_wr W158).1) (K163q).1)) (v := some (.ref b135)) (fun h => by rw [Bd.returns] at h; cases h)
                  refine ⟨_, _, pre133 _ ?_, hrun, hended, _, _, rfl, ?_, hRW.1, hRW.2.1, hRW.2.2.1, hRW.2.2.2.mono (by decide) (by decide)⟩
                  · show Steps p.tables e below (s₁.setTop (mkF m 242 #[.val (.int p1), .val (.ref a2)] [(.int (7 : Int32)), (.int p1)])) _
                    refine XS.icmpNo X0.here hx rfl (hb hby d1_242) rfl (teq hc134).2 ?_
                    show Steps p.tables e below (s₁.setTop (mkF m 245 #[.val (.int p1), .val (.ref a2)] [])) _
                    refine st135 _ ?_
                    show Steps p.tables e below (T135.setTop (mkF m 248 #[.val (.int p1), .val (.ref a2)] [(.ref b135)])) _
                    refine XS.dup X135.here hx rfl (hb hby d1_248) rfl rfl ?_
                    show Steps p.tables e below (T135.setTop (mkF m 249 #[.val (.int p1), .val (.ref a2)] [(.ref b135), (.ref b135)])) _
                    refine XS.bipush X135.here hx rfl (hb hby d1_249) ?_
                    show Steps p.tables e below (T135.setTop (mkF m 251 #[.val (.int p1), .val (.ref a2)] [(.int (7 : Int32)), (.ref b135), (.ref b135)])) _
                    refine st137 _ ?_
                    show Steps p.tables e below (T137.setTop (mkF m 253 #[.val (.int p1), .val (.ref a2)] [(.ref b137), (.ref b135), (.ref b135)])) _
                    refine XS.dup X137.here hx rfl (hb hby d1_253) rfl rfl ?_
                    show Steps p.tables e below (T137.setTop (mkF m 254 #[.val (.int p1), .val (.ref a2)] [(.ref b137), (.ref b137), (.ref b135), (.ref b135)])) _
                    refine XS.iconst X137.here hx rfl (hb hby d1_254) ?_
                    show Steps p.tables e below (T137.setTop (mkF m 255 #[.val (.int p1), .val (.ref a2)] [(.int (0 : Int32)), (.ref b137), (.ref b137), (.ref b135), (.ref b135)])) _
                    refine XS.aloadN X137.here hx rfl (hb hby d1_255) rfl rfl ?_
                    show Steps p.tables e below (T137.setTop (mkF m 256 #[.val (.int p1), .val (.ref a2)] [(.ref a2), (.int (0 : Int32)), (.ref b137), (.ref b137), (.ref b135), (.ref b135)])) _
                    refine XS.iconst X137.here hx rfl (hb hby d1_256) ?_
                    show Steps p.tables e below (T137.setTop (mkF m 257 #[.val (.int p1), .val (.ref a2)] [(.int (0 : Int32)), (.ref a2), (.int (0 : Int32)), (.ref b137), (.ref b137), (.ref b135), (.ref b135)])) _
                    refine X137.caload hx (j := (0 : Int32)) (v := (.int c0)) (by rw [e137]; exact Ar139.1) (State.isArrayOf_alike hZ.alike Ar139.2.1) Ar139.2.2 (inb_of S139 ⟨by decide, by decide⟩) (show cl139.slots[((0 : Int32)).toNatClampNeg]? = some (.int c0) from H139 0 (by rw [S139]; decide)) (g := (mkF m 257 #[.val (.int p1), .val (.ref a2)] [(.int (0 : Int32)), (.ref a2), (.int (0 : Int32)), (.ref b137), (.ref b137), (.ref b135), (.ref b135)])) rfl rfl (hb hby d1_257) _ ?_
                    show Steps p.tables e below (T137.setTop (mkF m 258 #[.val (.int p1), .val (.ref a2)] [(.int c0), (.int (0 : Int32)), (.ref b137), (.ref b137), (.ref b135), (.ref b135)])) _
                    refine st140 _ ?_
                    show Steps p.tables e below (T140.setTop (mkF m 259 #[.val (.int p1), .val (.ref a2)] [(.ref b137), (.ref b135), (.ref b135)])) _
                    refine XS.dup X140.here hx rfl (hb hby d1_259) rfl rfl ?_
                    show Steps p.tables e below (T140.setTop (mkF m 260 #[.val (.int p1), .val (.ref a2)] [(.ref b137), (.ref b137), (.ref b135), (.ref b135)])) _
                    refine XS.iconst X140.here hx rfl (hb hby d1_260) ?_
                    show Steps p.tables e below (T140.setTop (mkF m 261 #[.val (.int p1), .val (.ref a2)] [(.int (1 : Int32)), (.ref b137), (.ref b137), (.ref b135), (.ref b135)])) _
                    refine XS.aloadN X140.here hx rfl (hb hby d1_261) rfl rfl ?_
                    show Steps p.tables e below (T140.setTop (mkF m 262 #[.val (.int p1), .val (.ref a2)] [(.ref a2), (.int (1 : Int32)), (.ref b137), (.ref b137), (.ref b135), (.ref b135)])) _
                    refine XS.iconst X140.here hx rfl (hb hby d1_262) ?_
                    show Steps p.tables e below (T140.setTop (mkF m 263 #[.val (.int p1), .val (.ref a2)] [(.int (1 : Int32)), (.ref a2), (.int (1 : Int32)), (.ref b137), (.ref b137), (.ref b135), (.ref b135)])) _
                    refine X140.caload hx (j := (1 : Int32)) (v := (.int c1)) (by rw [e140]; exact Ar142.1) (State.isArrayOf_alike hZ.alike Ar142.2.1) Ar142.2.2 (inb_of S142 ⟨by decide, by decide⟩) (show cl142.slots[((1 : Int32)).toNatClampNeg]? = some (.int c1) from H142 1 (by rw [S142]; decide)) (g := (mkF m 263 #[.val (.int p1), .val (.ref a2)] [(.int (1 : Int32)), (.ref a2), (.int (1 : Int32)), (.ref b137), (.ref b137), (.ref b135), (.ref b135)])) rfl rfl (hb hby d1_263) _ ?_
                    show Steps p.tables e below (T140.setTop (mkF m 264 #[.val (.int p1), .val (.ref a2)] [(.int c1), (.int (1 : Int32)), (.ref b137), (.ref b137), (.ref b135), (.ref b135)])) _
                    refine st143 _ ?_
                    show Steps p.tables e below (T143.setTop (mkF m 265 #[.val (.int p1), .val (.ref a2)] [(.ref b137), (.ref b135), (.ref b135)])) _
                    refine XS.dup X143.here hx rfl (hb hby d1_265) rfl rfl ?_
                    show Steps p.tables e below (T143.setTop (mkF m 266 #[.val (.int p1), .val (.ref a2)] [(.ref b137), (.ref b137), (.ref b135), (.ref b135)])) _
                    refine XS.iconst X143.here hx rfl (hb hby d1_266) ?_
                    show Steps p.tables e below (T143.setTop (mkF m 267 #[.val (.int p1), .val (.ref a2)] [(.int (2 : Int32)), (.ref b137), (.ref b137), (.ref b135), (.ref b135)])) _
                    refine XS.aloadN X143.here hx rfl (hb hby d1_267) rfl rfl ?_
                    show Steps p.tables e below (T143.setTop (mkF m 268 #[.val (.int p1), .val (.ref a2)] [(.ref a2), (.int (2 : Int32)), (.ref b137), (.ref b137), (.ref b135), (.ref b135)])) _
                    refine XS.iconst X143.here hx rfl (hb hby d1_268) ?_
                    show Steps p.tables e below (T143.setTop (mkF m 269 #[.val (.int p1), .val (.ref a2)] [(.int (2 : Int32)), (.ref a2), (.int (2 : Int32)), (.ref b137), (.ref b137), (.ref b135), (.ref b135)])) _
                    refine X143.caload hx (j := (2 : Int32)) (v := (.int c2)) (by rw [e143]; exact Ar145.1) (State.isArrayOf_alike hZ.alike Ar145.2.1) Ar145.2.2 (inb_of S145 ⟨by decide, by decide⟩) (show cl145.slots[((2 : Int32)).toNatClampNeg]? = some (.int c2) from H145 2 (by rw [S145]; decide)) (g := (mkF m 269 #[.val (.int p1), .val (.ref a2)] [(.int (2 : Int32)), (.ref a2), (.int (2 : Int32)), (.ref b137), (.ref b137), (.ref b135), (.ref b135)])) rfl rfl (hb hby d1_269) _ ?_
                    show Steps p.tables e below (T143.setTop (mkF m 270 #[.val (.int p1), .val (.ref a2)] [(.int c2), (.int (2 : Int32)), (.ref b137), (.ref b137), (.ref b135), (.ref b135)])) _
                    refine st146 _ ?_
                    show Steps p.tables e below (T146.setTop (mkF m 271 #[.val (.int p1), .val (.ref a2)] [(.ref b137), (.ref b135), (.ref b135)])) _
                    refine XS.dup X146.here hx rfl (hb hby d1_271) rfl rfl ?_
                    show Steps p.tables e below (T146.setTop (mkF m 272 #[.val (.int p1), .val (.ref a2)] [(.ref b137), (.ref b137), (.ref b135), (.ref b135)])) _
                    refine XS.iconst X146.here hx rfl (hb hby d1_272) ?_
                    show Steps p.tables e below (T146.setTop (mkF m 273 #[.val (.int p1), .val (.ref a2)] [(.int (3 : Int32)), (.ref b137), (.ref b137), (.ref b135), (.ref b135)])) _
                    refine XS.aloadN X146.here hx rfl (hb hby d1_273) rfl rfl ?_
                    show Steps p.tables e below (T146.setTop (mkF m 274 #[.val (.int p1), .val (.ref a2)] [(.ref a2), (.int (3 : Int32)), (.ref b137), (.ref b137), (.ref b135), (.ref b135)])) _
                    refine XS.iconst X146.here hx rfl (hb hby d1_274) ?_
                    show Steps p.tables e below (T146.setTop (mkF m 275 #[.val (.int p1), .val (.ref a2)] [(.int (3 : Int32)), (.ref a2), (.int (3 : Int32)), (.ref b137), (.ref b137), (.ref b135), (.ref b135)])) _
                    refine X146.caload hx (j := (3 : Int32)) (v := (.int c3)) (by rw [e146]; exact Ar148.1) (State.isArrayOf_alike hZ.alike Ar148.2.1) Ar148.2.2 (inb_of S148 ⟨by decide, by decide⟩) (show cl148.slots[((3 : Int32)).toNatClampNeg]? = some (.int c3) from H148 3 (by rw [S148]; decide)) (g := (mkF m 275 #[.val (.int p1), .val (.ref a2)] [(.int (3 : Int32)), (.ref a2), (.int (3 : Int32)), (.ref b137), (.ref b137), (.ref b135), (.ref b135)])) rfl rfl (hb hby d1_275) _ ?_
                    show Steps p.tables e below (T146.setTop (mkF m 276 #[.val (.int p1), .val (.ref a2)] [(.int c3), (.int (3 : Int32)), (.ref b137), (.ref b137), (.ref b135), (.ref b135)])) _
                    refine st149 _ ?_
                    show Steps p.tables e below (T149.setTop (mkF m 277 #[.val (.int p1), .val (.ref a2)] [(.ref b137), (.ref b135), (.ref b135)])) _
                    refine XS.dup X149.here hx rfl (hb hby d1_277) rfl rfl ?_
                    show Steps p.tables e below (T149.setTop (mkF m 278 #[.val (.int p1), .val (.ref a2)] [(.ref b137), (.ref b137), (.ref b135), (.ref b135)])) _
                    refine XS.iconst X149.here hx rfl (hb hby d1_278) ?_
                    show Steps p.tables e below (T149.setTop (mkF m 279 #[.val (.int p1), .val (.ref a2)] [(.int (4 : Int32)), (.ref b137), (.ref b137), (.ref b135), (.ref b135)])) _
                    refine XS.aloadN X149.here hx rfl (hb hby d1_279) rfl rfl ?_
                    show Steps p.tables e below (T149.setTop (mkF m 280 #[.val (.int p1), .val (.ref a2)] [(.ref a2), (.int (4 : Int32)), (.ref b137), (.ref b137), (.ref b135), (.ref b135)])) _
                    refine XS.iconst X149.here hx rfl (hb hby d1_280) ?_
                    show Steps p.tables e below (T149.setTop (mkF m 281 #[.val (.int p1), .val (.ref a2)] [(.int (4 : Int32)), (.ref a2), (.int (4 : Int32)), (.ref b137), (.ref b137), (.ref b135), (.ref b135)])) _
                    refine X149.caload hx (j := (4 : Int32)) (v := (.int c4)) (by rw [e149]; exact Ar151.1) (State.isArrayOf_alike hZ.alike Ar151.2.1) Ar151.2.2 (inb_of S151 ⟨by decide, by decide⟩) (show cl151.slots[((4 : Int32)).toNatClampNeg]? = some (.int c4) from H151 4 (by rw [S151]; decide)) (g := (mkF m 281 #[.val (.int p1), .val (.ref a2)] [(.int (4 : Int32)), (.ref a2), (.int (4 : Int32)), (.ref b137), (.ref b137), (.ref b135), (.ref b135)])) rfl rfl (hb hby d1_281) _ ?_
                    show Steps p.tables e below (T149.setTop (mkF m 282 #[.val (.int p1), .val (.ref a2)] [(.int c4), (.int (4 : Int32)), (.ref b137), (.ref b137), (.ref b135), (.ref b135)])) _
                    refine st152 _ ?_
                    show Steps p.tables e below (T152.setTop (mkF m 283 #[.val (.int p1), .val (.ref a2)] [(.ref b137), (.ref b135), (.ref b135)])) _
                    refine XS.dup X152.here hx rfl (hb hby d1_283) rfl rfl ?_
                    show Steps p.tables e below (T152.setTop (mkF m 284 #[.val (.int p1), .val (.ref a2)] [(.ref b137), (.ref b137), (.ref b135), (.ref b135)])) _
                    refine XS.iconst X152.here hx rfl (hb hby d1_284) ?_
                    show Steps p.tables e below (T152.setTop (mkF m 285 #[.val (.int p1), .val (.ref a2)] [(.int (5 : Int32)), (.ref b137), (.ref b137), (.ref b135), (.ref b135)])) _
                    refine XS.aloadN X152.here hx rfl (hb hby d1_285) rfl rfl ?_
                    show Steps p.tables e below (T152.setTop (mkF m 286 #[.val (.int p1), .val (.ref a2)] [(.ref a2), (.int (5 : Int32)), (.ref b137), (.ref b137), (.ref b135), (.ref b135)])) _
                    refine XS.iconst X152.here hx rfl (hb hby d1_286) ?_
                    show Steps p.tables e below (T152.setTop (mkF m 287 #[.val (.int p1), .val (.ref a2)] [(.int (5 : Int32)), (.ref a2), (.int (5 : Int32)), (.ref b137), (.ref b137), (.ref b135), (.ref b135)])) _
                    refine X152.caload hx (j := (5 : Int32)) (v := (.int c5)) (by rw [e152]; exact Ar154.1) (State.isArrayOf_alike hZ.alike Ar154.2.1) Ar154.2.2 (inb_of S154 ⟨by decide, by decide⟩) (show cl154.slots[((5 : Int32)).toNatClampNeg]? = some (.int c5) from H154 5 (by rw [S154]; decide)) (g := (mkF m 287 #[.val (.int p1), .val (.ref a2)] [(.int (5 : Int32)), (.ref a2), (.int (5 : Int32)), (.ref b137), (.ref b137), (.ref b135), (.ref b135)])) rfl rfl (hb hby d1_287) _ ?_
                    show Steps p.tables e below (T152.setTop (mkF m 288 #[.val (.int p1), .val (.ref a2)] [(.int c5), (.int (5 : Int32)), (.ref b137), (.ref b137), (.ref b135), (.ref b135)])) _
                    refine st155 _ ?_
                    show Steps p.tables e below (T155.setTop (mkF m 289 #[.val (.int p1), .val (.ref a2)] [(.ref b137), (.ref b135), (.ref b135)])) _
                    refine XS.dup X155.here hx rfl (hb hby d1_289) rfl rfl ?_
                    show Steps p.tables e below (T155.setTop (mkF m 290 #[.val (.int p1), .val (.ref a2)] [(.ref b137), (.ref b137), (.ref b135), (.ref b135)])) _
                    refine XS.bipush X155.here hx rfl (hb hby d1_290) ?_
                    show Steps p.tables e below (T155.setTop (mkF m 292 #[.val (.int p1), .val (.ref a2)] [(.int (6 : Int32)), (.ref b137), (.ref b137), (.ref b135), (.ref b135)])) _
                    refine XS.aloadN X155.here hx rfl (hb hby d1_292) rfl rfl ?_
                    show Steps p.tables e below (T155.setTop (mkF m 293 #[.val (.int p1), .val (.ref a2)] [(.ref a2), (.int (6 : Int32)), (.ref b137), (.ref b137), (.ref b135), (.ref b135)])) _
                    refine XS.bipush X155.here hx rfl (hb hby d1_293) ?_
                    show Steps p.tables e below (T155.setTop (mkF m 295 #[.val (.int p1), .val (.ref a2)] [(.int (6 : Int32)), (.ref a2), (.int (6 : Int32)), (.ref b137), (.ref b137), (.ref b135), (.ref b135)])) _
                    refine X155.caload hx (j := (6 : Int32)) (v := (.int c6)) (by rw [e155]; exact Ar157.1) (State.isArrayOf_alike hZ.alike Ar157.2.1) Ar157.2.2 (inb_of S157 ⟨by decide, by decide⟩) (show cl157.slots[((6 : Int32)).toNatClampNeg]? = some (.int c6) from H157 6 (by rw [S157]; decide)) (g := (mkF m 295 #[.val (.int p1), .val (.ref a2)] [(.int (6 : Int32)), (.ref a2), (.int (6 : Int32)), (.ref b137), (.ref b137), (.ref b135), (.ref b135)])) rfl rfl (hb hby d1_295) _ ?_
                    show Steps p.tables e below (T155.setTop (mkF m 296 #[.val (.int p1), .val (.ref a2)] [(.int c6), (.int (6 : Int32)), (.ref b137), (.ref b137), (.ref b135), (.ref b135)])) _
                    refine st158 _ ?_
                    show Steps p.tables e below (T158.setTop (mkF m 297 #[.val (.int p1), .val (.ref a2)] [(.ref b137), (.ref b135), (.ref b135)])) _
                    refine st163.trans ?_
                    show Steps p.tables e below (T163.setTop (mkF m 300 #[.val (.int p1), .val (.ref a2)] [(.ref b135)])) _
                    jvm_step X163.here [X163.here.top, hx, (hb hby d1_300), X163.method', Bd.returns, Value.isRef, FieldType.isReference]
                    first | (intro acts; rw [hr _ acts rfl rfl rfl]) | rw [hr _ _ rfl rfl rfl]
                    exact Steps.refl _
                  · show Q_rmT Z p1 a2 kd zc c0 c1 c2 c3 c4 c5 c6 c7 c8 h0 n0 _ T163.heap T163.vm _
                    exact ⟨b135, t163, k163_, [c0, c1, c2, c3, c4, c5, c6], (7 : Int32), _, rfl, N163, K163, A163q, F163q, C163q, B163q, StrChars.Road.codOf (cs := [c0, c1, c2, c3, c4, c5, c6]) (n := 7) rfl (fun c hc => (hbb c hc).2), own_up hbb, (by show 7 ≤ 4000; decide), own_ib (X163.warmed.interned_eq.trans hin0)⟩
                · have pre164 : ∀ t, Steps p.tables e below (s₁.setTop (mkF m 304 #[.val (.int p1), .val (.ref a2)] [(.int (8 : Int32)), (.int p1)])) t → Steps p.tables e below (s₁.setTop (entryFrame m #[(.int p1), (.ref a2)] 2)) t := fun t k => pre133 t (by
                      show Steps p.tables e below (s₁.setTop (mkF m 242 #[.val (.int p1), .val (.ref a2)] [(.int (7 : Int32)), (.int p1)])) _
                      refine XS.icmpYes X0.here hx rfl (pc0 := 242) (pc' := 301) rfl (hb hby d1_242) rfl (feq hc134).2 (by decide) (by decide) ?_
                      show Steps p.tables e below (s₁.setTop (mkF m 301 #[.val (.int p1), .val (.ref a2)] [])) _
                      refine XS.iloadN X0.here hx rfl (hb hby d1_301) rfl ?_
                      show Steps p.tables e below (s₁.setTop (mkF m 302 #[.val (.int p1), .val (.ref a2)] [(.int p1)])) _
                      refine XS.bipush X0.here hx rfl (hb hby d1_302) ?_
                      exact k)
                  by_cases hc165 : p1 = (8 : Int32)
                  · obtain ⟨T166, h166, X166, e166, E166, A166, D166, -, st166⟩ := newO X0 hx hZ hown (hw _ (List.mem_of_getElem? (i := 7) rfl)) (hw _ (List.mem_of_getElem? (i := 8) rfl)) (hw _ (List.mem_of_getElem? (i := 9) rfl)) e0 (g := (mkF m 307 #[.val (.int p1), .val (.ref a2)] [])) rfl (hb hby d1_307) (by decide) (by decide)
                    obtain ⟨b166, g166⟩ : ∃ z, z = h0.size := ⟨_, rfl⟩
                    rw [← g166] at A166 D166 st166
                    have ne_a2_b166 : a2 ≠ b166 := Nat.ne_of_lt (Nat.lt_of_lt_of_le V_a2.lt (Nat.le_of_eq g166.symm))
                    have g_b166 : n0 ≤ b166 := Nat.le_trans Z0 (Nat.le_of_eq g166.symm)
                    have sz_b166 : h0.size ≤ b166 := Nat.le_trans ((Keep.refl h0 [])).1 (Nat.le_of_eq g166.symm)
                    have K166 : Keep h0 h166 [] := ((Keep.refl h0 [])).ext E166
                    have F166_coder : Fld Z h166 b166 "java/lang/String" "coder" "B" (.int (0 : Int32)) := D166 (Or.inr (hw _ (List.mem_of_getElem? (i := 33) rfl))) (ty := .byte) (by decide)
                    have F166_value : Fld Z h166 b166 "java/lang/String" "value" "[B" .null := D166 (Or.inr (hw _ (List.mem_of_getElem? (i := 35) rfl))) (ty := (.array .byte)) (by decide)
                    have f167 := (V_a2.ext E166)
                    obtain ⟨T168, h168, k168, X168, e168, E168, A168, st168⟩ := newP X166 hx hZ (hw _ (List.mem_of_getElem? (i := 1) rfl)) e166 (g := (mkF m 313 #[.val (.int p1), .val (.ref a2)] [(.int (8 : Int32)), (.ref b166), (.ref b166)])) rfl (hb hby d1_313) rfl (by decide) (cap := 8) (by decide) (by decide) (by decide) (by decide)
                    obtain ⟨b168, g168⟩ : ∃ z, z = h166.size := ⟨_, rfl⟩
                    rw [← g168] at A168 st168
                    have ne_a2_b168 : a2 ≠ b168 := Nat.ne_of_lt (Nat.lt_of_lt_of_le f167.lt (Nat.le_of_eq g168.symm))
                    have ne_b166_b168 : b166 ≠ b168 := Nat.ne_of_lt (Nat.lt_of_lt_of_le A166.lt (Nat.le_of_eq g168.symm))
                    have V_b168 : Arv Z h168 b168 k168 .char (8 : Int32) [(.int (0 : Int32)), (.int (0 : Int32)), (.int (0 : Int32)), (.int (0 : Int32)), (.int (0 : Int32)), (.int (0 : Int32)), (.int (0 : Int32)), (.int (0 : Int32))] (.int (0 : Int32)) := (Arv.new A168 (by decide)).pad (pad_rep [] (.int (0 : Int32)) 8)
                    have g_b168 : n0 ≤ b168 := Nat.le_trans (Nat.le_trans Z0 K166.1) (Nat.le_of_eq g168.symm)
                    have sz_b168 : h0.size ≤ b168 := Nat.le_trans (K166).1 (Nat.le_of_eq g168.symm)
                    have K168 : Keep h0 h168 [] := (K166).ext E168
                    have f169 := (f167.ext E168)
                    obtain ⟨cl170, Ar170, q170, S170, N170_, H170, G170⟩ := id f169
                    obtain ⟨cl171, Ar171, q171, S171, N171_, H171, G171⟩ := id V_b168
                    obtain ⟨T171, h171, X171, e171, W171, st171⟩ := stC X168 hx hZ e168 Ar171 (j := (0 : Int32)) (inb_of S171 ⟨by decide, by decide⟩) (g := (mkF m 320 #[.val (.int p1), .val (.ref a2)] [(.int c0), (.int (0 : Int32)), (.ref b168), (.ref b168), (.ref b166), (.ref b166)])) rfl rfl (hb hby d1_320)
                    have V171 := Arv.set Ar171 q171 S171 N171_ H171 G171 (fits_nar_char _) W171 0 rfl (Nat.le_of_ble_eq_true rfl)
                    have K171 : Keep h0 h171 [] := (K168).wr W171 (Or.inr sz_b168)
                    have N171 := Fr.snoc X171 N0 g_b168
                    have f172 := (f169.other W171 ne_a2_b168)
                    obtain ⟨cl173, Ar173, q173, S173, N173_, H173, G173⟩ := id f172
                    obtain ⟨cl174, Ar174, q174, S174, N174_, H174, G174⟩ := id V171
                    obtain ⟨T174, h174, X174, e174, W174, st174⟩ := stC X171 hx hZ e171 Ar174 (j := (1 : Int32)) (inb_of S174 ⟨by decide, by decide⟩) (g := (mkF m 326 #[.val (.int p1), .val (.ref a2)] [(.int c1), (.int (1 : Int32)), (.ref b168), (.ref b168), (.ref b166), (.ref b166)])) rfl rfl (hb hby d1_326)
                    have V174 := Arv.set Ar174 q174 S174 N174_ H174 G174 (fits_nar_char _) W174 1 rfl (Nat.le_of_ble_eq_true rfl)
                    have K174 : Keep h0 h174 [] := (K171).wr W174 (Or.inr sz_b168)
                    have N174 := Fr.snoc X174 N171 g_b168
                    have f175 := (f172.other W174 ne_a2_b168)
                    obtain ⟨cl176, Ar176, q176, S176, N176_, H176, G176⟩ := id f175
                    obtain ⟨cl177, Ar177, q177, S177, N177_, H177, G177⟩ := id V174
                    obtain ⟨T177, h177, X177, e177, W177, st177⟩ := stC X174 hx hZ e174 Ar177 (j := (2 : Int32)) (inb_of S177 ⟨by decide, by decide⟩) (g := (mkF m 332 #[.val (.int p1), .val (.ref a2)] [(.int c2), (.int (2 : Int32)), (.ref b168), (.ref b168), (.ref b166), (.ref b166)])) rfl rfl (hb hby d1_332)
                    have V177 := Arv.set Ar177 q177 S177 N177_ H177 G177 (fits_nar_char _) W177 2 rfl (Nat.le_of_ble_eq_true rfl)
                    have K177 : Keep h0 h177 [] := (K174).wr W177 (Or.inr sz_b168)
                    have N177 := Fr.snoc X177 N174 g_b168
                    have f178 := (f175.other W177 ne_a2_b168)
                    obtain ⟨cl179, Ar179, q179, S179, N179_, H179, G179⟩ := id f178
                    obtain ⟨cl180, Ar180, q180, S180, N180_, H180, G180⟩ := id V177
                    obtain ⟨T180, h180, X180, e180, W180, st180⟩ := stC X177 hx hZ e177 Ar180 (j := (3 : Int32)) (inb_of S180 ⟨by decide, by decide⟩) (g := (mkF m 338 #[.val (.int p1), .val (.ref a2)] [(.int c3), (.int (3 : Int32)), (.ref b168), (.ref b168), (.ref b166), (.ref b166)])) rfl rfl (hb hby d1_338)
                    have V180 := Arv.set Ar180 q180 S180 N180_ H180 G180 (fits_nar_char _) W180 3 rfl (Nat.le_of_ble_eq_true rfl)
                    have K180 : Keep h0 h180 [] := (K177).wr W180 (Or.inr sz_b168)
                    have N180 := Fr.snoc X180 N177 g_b168
                    have f181 := (f178.other W180 ne_a2_b168)
                    obtain ⟨cl182, Ar182, q182, S182, N182_, H182, G182⟩ := id f181
                    obtain ⟨cl183, Ar183, q183, S183, N183_, H183, G183⟩ := id V180
                    obtain ⟨T183, h183, X183, e183, W183, st183⟩ := stC X180 hx hZ e180 Ar183 (j := (4 : Int32)) (inb_of S183 ⟨by decide, by decide⟩) (g := (mkF m 344 #[.val (.int p1), .val (.ref a2)] [(.int c4), (.int (4 : Int32)), (.ref b168), (.ref b168), (.ref b166), (.ref b166)])) rfl rfl (hb hby d1_344)
                    have V183 := Arv.set Ar183 q183 S183 N183_ H183 G183 (fits_nar_char _) W183 4 rfl (Nat.le_of_ble_eq_true rfl)
                    have K183 : Keep h0 h183 [] := (K180).wr W183 (Or.inr sz_b168)
                    have N183 := Fr.snoc X183 N180 g_b168
                    have f184 := (f181.other W183 ne_a2_b168)
                    obtain ⟨cl185, Ar185, q185, S185, N185_, H185, G185⟩ := id f184
                    obtain ⟨cl186, Ar186, q186, S186, N186_, H186, G186⟩ := id V183
                    obtain ⟨T186, h186, X186, e186, W186, st186⟩ := stC X183 hx hZ e183 Ar186 (j := (5 : Int32)) (inb_of S186 ⟨by decide, by decide⟩) (g := (mkF m 350 #[.val (.int p1), .val (.ref a2)] [(.int c5), (.int (5 : Int32)), (.ref b168), (.ref b168), (.ref b166), (.ref b166)])) rfl rfl (hb hby d1_350)
                    have V186 := Arv.set Ar186 q186 S186 N186_ H186 G186 (fits_nar_char _) W186 5 rfl (Nat.le_of_ble_eq_true rfl)
                    have K186 : Keep h0 h186 [] := (K183).wr W186 (Or.inr sz_b168)
                    have N186 := Fr.snoc X186 N183 g_b168
                    have f187 := (f184.other W186 ne_a2_b168)
                    obtain ⟨cl188, Ar188, q188, S188, N188_, H188, G188⟩ := id f187
                    obtain ⟨cl189, Ar189, q189, S189, N189_, H189, G189⟩ := id V186
                    obtain ⟨T189, h189, X189, e189, W189, st189⟩ := stC X186 hx hZ e186 Ar189 (j := (6 : Int32)) (inb_of S189 ⟨by decide, by decide⟩) (g := (mkF m 358 #[.val (.int p1), .val (.ref a2)] [(.int c6), (.int (6 : Int32)), (.ref b168), (.ref b168), (.ref b166), (.ref b166)])) rfl rfl (hb hby d1_358)
                    have V189 := Arv.set Ar189 q189 S189 N189_ H189 G189 (fits_nar_char _) W189 6 rfl (Nat.le_of_ble_eq_true rfl)
                    have K189 : Keep h0 h189 [] := (K186).wr W189 (Or.inr sz_b168)
                    have N189 := Fr.snoc X189 N186 g_b168
                    have f190 := (f187.other W189 ne_a2_b168)
                    obtain ⟨cl191, Ar191, q191, S191, N191_, H191, G191⟩ := id f190
                    obtain ⟨cl192, Ar192, q192, S192, N192_, H192, G192⟩ := id V189
                    obtain ⟨T192, h192, X192, e192, W192, st192⟩ := stC X189 hx hZ e189 Ar192 (j := (7 : Int32)) (inb_of S192 ⟨by decide, by decide⟩) (g := (mkF m 366 #[.val (.int p1), .val (.ref a2)] [(.int c7), (.int (7 : Int32)), (.ref b168), (.ref b168), (.ref b166), (.ref b166)])) rfl rfl (hb hby d1_366)
                    have V192 := Arv.set Ar192 q192 S192 N192_ H192 G192 (fits_nar_char _) W192 7 rfl (Nat.le_of_ble_eq_true rfl)
                    have K192 : Keep h0 h192 [] := (K189).wr W192 (Or.inr sz_b168)
                    have N192 := Fr.snoc X192 N189 g_b168
                    have f193 := (Exa.wr W192 (Exa.wr W189 (Exa.wr W186 (Exa.wr W183 (Exa.wr W180 (Exa.wr W177 (Exa.wr W174 (Exa.wr W171 (Exa.ext E168 A166)))))))))
                    have f194 := (Fld.other W192 (Fld.other W189 (Fld.other W186 (Fld.other W183 (Fld.other W180 (Fld.other W177 (Fld.other W174 (Fld.other W171 (Fld.ext E168 F166_value) (Or.inl ne_b166_b168)) (Or.inl ne_b166_b168)) (Or.inl ne_b166_b168)) (Or.inl ne_b166_b168)) (Or.inl ne_b166_b168)) (Or.inl ne_b166_b168)) (Or.inl ne_b166_b168)) (Or.inl ne_b166_b168))
                    have f195 := (Fld.other W192 (Fld.other W189 (Fld.other W186 (Fld.other W183 (Fld.other W180 (Fld.other W177 (Fld.other W174 (Fld.other W171 (Fld.ext E168 F166_coder) (Or.inl ne_b166_b168)) (Or.inl ne_b166_b168)) (Or.inl ne_b166_b168)) (Or.inl ne_b166_b168)) (Or.inl ne_b166_b168)) (Or.inl ne_b166_b168)) (Or.inl ne_b166_b168)) (Or.inl ne_b166_b168))
                    have V196 : Arv Z h192 b168 k168 .char (8 : Int32) (([c0, c1, c2, c3, c4, c5, c6, c7] : List Int32).map Value.int) (.int (0 : Int32)) := by have q := V192; simp only [own_narc hbn.1, own_narc hbn.2.1, own_narc hbn.2.2.1, own_narc hbn.2.2.2.1, own_narc hbn.2.2.2.2.1, own_narc hbn.2.2.2.2.2.1, own_narc hbn.2.2.2.2.2.2.1, own_narc hbn.2.2.2.2.2.2.2.1] at q; exact q
                    have hbb : ∀ c ∈ ([c0, c1, c2, c3, c4, c5, c6, c7] : List Int32), ¬ c < 0 ∧ ¬ (255 : Int32) < c := by intro c hc; simp only [List.mem_cons, List.not_mem_nil, or_false] at hc; rcases hc with hc | hc | hc | hc | hc | hc | hc | hc <;> (subst hc; first | exact hbn.1 | exact hbn.2.1 | exact hbn.2.2.1 | exact hbn.2.2.2.1 | exact hbn.2.2.2.2.1 | exact hbn.2.2.2.2.2.1 | exact hbn.2.2.2.2.2.2.1 | exact hbn.2.2.2.2.2.2.2.1 | exact hbn.2.2.2.2.2.2.2.2)
                    have hws : ∀ d ∈ StrChars.Road.words, d.before a0 Z = true := fun d hd => hw d ((by decide +kernel : ∀ d ∈ StrChars.Road.words, d ∈ tables_1) d hd)
                    obtain ⟨_, _, ⟨T197, L197, k197, n197⟩, -, X197, ⟨Lc197, hQ197, l197, y197, z197⟩, st197⟩ := X192.specialBack hx (y := (⟨"java/lang/String", "<init>", "([C)V"⟩ : MethodName)) rfl hown (mvT hZ (hw _ (List.mem_of_getElem? (i := 10) rfl))) (mvT hZ (hw _ (List.mem_of_getElem? (i := 11) rfl))) (mvT hZ (hw _ (List.mem_of_getElem? (i := 12) rfl))) (by decide) (StrChars.Road.backV (W := 1) hZ hws (kI := 4) (hw _ (List.mem_of_getElem? (i := 8) rfl)) (cs := [c0, c1, c2, c3, c4, c5, c6, c7]) (bs := ([c0, c1, c2, c3, c4, c5, c6, c7] : List Int32).map (fun c => c.toInt8.toInt32)) (n := 8) g_b166 (Nat.le_trans Z0 K192.1) f193 f194 f195 V196 (Sta.ext (own_keep_ext K192) S_C) hzc rfl rfl (by decide) (by decide) hbb rfl (by decide) (by decide)) (g := (mkF m 367 #[.val (.int p1), .val (.ref a2)] [(.ref b168), (.ref b166), (.ref b166)])) rfl (by rw [hml]; rfl) (Steps.refl _) (a := b166) (argsL := [(.ref b168)]) (rest := [(.ref b166)]) (lenOf pd_rmT_0 rfl) rfl (by show 2 * 0 + _ ≤ _; exact Nat.le_of_eq rfl) (hb hby d1_367) (fun _ _ => ⟨rfl, e192, (by decide : 2 + 1 ≤ _), (by decide : 12 + 8 ≤ _)⟩)
                    dsimp only [Pt.U, Pt.locs, Pt.cells, Pt.slots] at X197 l197 y197 z197 st197 hQ197
                    subst l197 y197 z197
                    obtain ⟨rfl, N197q, K197q, A197q, C197q, t197, k197_, g1971, g1972, g1973, F197q, B197q⟩ := hQ197
                    have N197 := Fr.app N192 N197q
                    have K197 : Keep h0 T197.heap [] := (K192).trans K197q (allS (Or.inr sz_b166) all0)
                    obtain ⟨fs, hr, hrun, hended, hRW⟩ := Jvm.Stand.leaveW (s := s) (vm₁ := s.vm) X197 hS0 (show _ ≤ T197.heap.size by exact (Nat.le_trans (Nat.le_trans (Nat.le_trans (Nat.le_trans (Nat.le_trans (Nat.le_trans (Nat.le_trans (Nat.le_trans (Nat.le_trans (Nat.le_trans (Nat.le_trans (Nat.zero_le _) (E166).1) (E168).1) (Keep.of_wr W171).1) (Keep.of_wr W174).1) (Keep.of_wr W177).1) (Keep.of_wr W180).1) (Keep.of_wr W183).1) (Keep.of_wr W186).1) (Keep.of_wr W189).1) (Keep.of_wr W192).1) (K197q).1)) (v := some (.ref b166)) (fun h => by rw [Bd.returns] at h; cases h)
                    refine ⟨_, _, pre164 _ ?_, hrun, hended, _, _, rfl, ?_, hRW.1, hRW.2.1, hRW.2.2.1, hRW.2.2.2.mono (by decide) (by decide)⟩
                    · show Steps p.tables e below (s₁.setTop (mkF m 304 #[.val (.int p1), .val (.ref a2)] [(.int (8 : Int32)), (.int p1)])) _
                      refine XS.icmpNo X0.here hx rfl (hb hby d1_304) rfl (teq hc165).2 ?_
                      show Steps p.tables e below (s₁.setTop (mkF m 307 #[.val (.int p1), .val (.ref a2)] [])) _
                      refine st166 _ ?_
                      show Steps p.tables e below (T166.setTop (mkF m 310 #[.val (.int p1), .val (.ref a2)] [(.ref b166)])) _
                      refine XS.dup X166.here hx rfl (hb hby d1_310) rfl rfl ?_
                      show Steps p.tables e below (T166.setTop (mkF m 311 #[.val (.int p1), .val (.ref a2)] [(.ref b166), (.ref b166)])) _
                      refine XS.bipush X166.here hx rfl (hb hby d1_311) ?_
                      show Steps p.tables e below (T166.setTop (mkF m 313 #[.val (.int p1), .val (.ref a2)] [(.int (8 : Int32)), (.ref b166), (.ref b166)])) _
                      refine st168 _ ?_
                      show Steps p.tables e below (T168.setTop (mkF m 315 #[.val (.int p1), .val (.ref a2)] [(.ref b168), (.ref b166), (.ref b166)])) _
                      refine XS.dup X168.here hx rfl (hb hby d1_315) rfl rfl ?_
                      show Steps p.tables e below (T168.setTop (mkF m 316 #[.val (.int p1), .val (.ref a2)] [(.ref b168), (.ref b168), (.ref b166), (.ref b166)])) _
                      refine XS.iconst X168.here hx rfl (hb hby d1_316) ?_
                      show Steps p.tables e below (T168.setTop (mkF m 317 #[.val (.int p1), .val (.ref a2)] [(.int (0 : Int32)), (.ref b168), (.ref b168), (.ref b166), (.ref b166)])) _
                      refine XS.aloadN X168.here hx rfl (hb hby d1_317) rfl rfl ?_
                      show Steps p.tables e below (T168.setTop (mkF m 318 #[.val (.int p1), .val (.ref a2)] [(.ref a2), (.int (0 : Int32)), (.ref b168), (.ref b168), (.ref b166), (.ref b166)])) _
                      refine XS.iconst X168.here hx rfl (hb hby d1_318) ?_
                      show Steps p.tables e below (T168.setTop (mkF m 319 #[.val (.int p1), .val (.ref a2)] [(.int (0 : Int32)), (.ref a2), (.int (0 : Int32)), (.ref b168), (.ref b168), (.ref b166), (.ref b166)])) _
                      refine X168.caload hx (j := (0 : Int32)) (v := (.int c0)) (by rw [e168]; exact Ar170.1) (State.isArrayOf_alike hZ.alike Ar170.2.1) Ar170.2.2 (inb_of S170 ⟨by decide, by decide⟩) (show cl170.slots[((0 : Int32)).toNatClampNeg]? = some (.int c0) from H170 0 (by rw [S170]; decide)) (g := (mkF m 319 #[.val (.int p1), .val (.ref a2)] [(.int (0 : Int32)), (.ref a2), (.int (0 : Int32)), (.ref b168), (.ref b168), (.ref b166), (.ref b166)])) rfl rfl (hb hby d1_319) _ ?_
                      show Steps p.tables e below (T168.setTop (mkF m 320 #[.val (.int p1), .val (.ref a2)] [(.int c0), (.int (0 : Int32)), (.ref b168), (.ref b168), (.ref b166), (.ref b166)])) _
                      refine st171 _ ?_
                      show Steps p.tables e below (T171.setTop (mkF m 321 #[.val (.int p1), .val (.ref a2)] [(.ref b168), (.ref b166), (.ref b166)])) _
                      refine XS.dup X171.here hx rfl (hb hby d1_321) rfl rfl ?_
                      show Steps p.tables e below (T171.setTop (mkF m 322 #[.val (.int p1), .val (.ref a2)] [(.ref b168), (.ref b168), (.ref b166), (.ref b166)])) _
                      refine XS.iconst X171.here hx rfl (hb hby d1_322) ?_
                      show Steps p.tables e below (T171.setTop (mkF m 323 #[.val (.int p1), .val (.ref a2)] [(.int (1 : Int32)), (.ref b168), (.ref b168), (.ref b166), (.ref b166)])) _
                      refine XS.aloadN X171.here hx rfl (hb hby d1_323) rfl rfl ?_
                      show Steps p.tables e below (T171.setTop (mkF m 324 #[.val (.int p1), .val (.ref a2)] [(.ref a2), (.int (1 : Int32)), (.ref b168), (.ref b168), (.ref b166), (.ref b166)])) _
                      refine XS.iconst X171.here hx rfl (hb hby d1_324) ?_
                      show Steps p.tables e below (T171.setTop (mkF m 325 #[.val (.int p1), .val (.ref a2)] [(.int (1 : Int32)), (.ref a2), (.int (1 : Int32)), (.ref b168), (.ref b168), (.ref b166), (.ref b166)])) _
                      refine X171.caload hx (j := (1 : Int32)) (v := (.int c1)) (by rw [e171]; exact Ar173.1) (State.isArrayOf_alike hZ.alike Ar173.2.1) Ar173.2.2 (inb_of S173 ⟨by decide, by decide⟩) (show cl173.slots[((1 : Int32)).toNatClampNeg]? = some (.int c1) from H173 1 (by rw [S173]; decide)) (g := (mkF m 325 #[.val (.int p1), .val (.ref a2)] [(.int (1 : Int32)), (.ref a2), (.int (1 : Int32)), (.ref b168), (.ref b168), (.ref b166), (.ref b166)])) rfl rfl (hb hby d1_325) _ ?_
                      show Steps p.tables e below (T171.setTop (mkF m 326 #[.val (.int p1), .val (.ref a2)] [(.int c1), (.int (1 : Int32)), (.ref b168), (.ref b168), (.ref b166), (.ref b166)])) _
                      refine st174 _ ?_
                      show Steps p.tables e below (T174.setTop (mkF m 327 #[.val (.int p1), .val (.ref a2)] [(.ref b168), (.ref b166), (.ref b166)])) _
                      refine XS.dup X174.here hx rfl (hb hby d1_327) rfl rfl ?_
                      show Steps p.tables e below (T174.setTop (mkF m 328 #[.val (.int p1), .val (.ref a2)] [(.ref b168), (.ref b168), (.ref b166), (.ref b166)])) _
                      refine XS.iconst X174.here hx rfl (hb hby d1_328) ?_
                      show Steps p.tables e below (T174.setTop (mkF m 329 #[.val (.int p1), .val (.ref a2)] [(.int (2 : Int32)), (.ref b168), (.ref b168), (.ref b166), (.ref b166)])) _
                      refine XS.aloadN X174.here hx rfl (hb hby d1_329) rfl rfl ?_
                      show Steps p.tables e below (T174.setTop (mkF m 330 #[.val (.int p1), .val (.ref a2)] [(.ref a2), (.int (2 : Int32)), (.ref b168), (.ref b168), (.ref b166), (.ref b166)])) _
                      refine XS.iconst X174.here hx rfl (hb hby d1_330) ?_
                      show Steps p.tables e below (T174.setTop (mkF m 331 #[.val (.int p1), .val (.ref a2)] [(.int (2 : Int32)), (.ref a2), (.int (2 : Int32)), (.ref b168), (.ref b168), (.ref b166), (.ref b166)])) _
                      refine X174.caload hx (j := (2 : Int32)) (v := (.int c2)) (by rw [e174]; exact Ar176.1) (State.isArrayOf_alike hZ.alike Ar176.2.1) Ar176.2.2 (inb_of S176 ⟨by decide, by decide⟩) (show cl176.slots[((2 : Int32)).toNatClampNeg]? = some (.int c2) from H176 2 (by rw [S176]; decide)) (g := (mkF m 331 #[.val (.int p1), .val (.ref a2)] [(.int (2 : Int32)), (.ref a2), (.int (2 : Int32)), (.ref b168), (.ref b168), (.ref b166), (.ref b166)])) rfl rfl (hb hby d1_331) _ ?_
                      show Steps p.tables e below (T174.setTop (mkF m 332 #[.val (.int p1), .val (.ref a2)] [(.int c2), (.int (2 : Int32)), (.ref b168), (.ref b168), (.ref b166), (.ref b166)])) _
                      refine st177 _ ?_
                      show Steps p.tables e below (T177.setTop (mkF m 333 #[.val (.int p1), .val (.ref a2)] [(.ref b168), (.ref b166), (.ref b166)])) _
                      refine XS.dup X177.here hx rfl (hb hby d1_333) rfl rfl ?_
                      show Steps p.tables e below (T177.setTop (mkF m 334 #[.val (.int p1), .val (.ref a2)] [(.ref b168), (.ref b168), (.ref b166), (.ref b166)])) _
                      refine XS.iconst X177.here hx rfl (hb hby d1_334) ?_
                      show Steps p.tables e below (T177.setTop (mkF m 335 #[.val (.int p1), .val (.ref a2)] [(.int (3 : Int32)), (.ref b168), (.ref b168), (.ref b166), (.ref b166)])) _
                      refine XS.aloadN X177.here hx rfl (hb hby d1_335) rfl rfl ?_
                      show Steps p.tables e below (T177.setTop (mkF m 336 #[.val (.int p1), .val (.ref a2)] [(.ref a2), (.int (3 : Int32)), (.ref b168), (.ref b168), (.ref b166), (.ref b166)])) _
                      refine XS.iconst X177.here hx rfl (hb hby d1_336) ?_
                      show Steps p.tables e below (T177.setTop (mkF m 337 #[.val (.int p1), .val (.ref a2)] [(.int (3 : Int32)), (.ref a2), (.int (3 : Int32)), (.ref b168), (.ref b168), (.ref b166), (.ref b166)])) _
                      refine X177.caload hx (j := (3 : Int32)) (v := (.int c3)) (by rw [e177]; exact Ar179.1) (State.isArrayOf_alike hZ.alike Ar179.2.1) Ar179.2.2 (inb_of S179 ⟨by decide, by decide⟩) (show cl179.slots[((3 : Int32)).toNatClampNeg]? = some (.int c3) from H179 3 (by rw [S179]; decide)) (g := (mkF m 337 #[.val (.int p1), .val (.ref a2)] [(.int (3 : Int32)), (.ref a2), (.int (3 : Int32)), (.ref b168), (.ref b168), (.ref b166), (.ref b166)])) rfl rfl (hb hby d1_337) _ ?_
                      show Steps p.tables e below (T177.setTop (mkF m 338 #[.val (.int p1), .val (.ref a2)] [(.int c3), (.int (3 : Int32)), (.ref b168), (.ref b168), (.ref b166), (.ref b166)])) _
                      refine st180 _ ?_
                      show Steps p.tables e below (T180.setTop (mkF m 339 #[.val (.int p1), .val (.ref a2)] [(.ref b168), (.ref b166), (.ref b166)])) _
                      refine XS.dup X180.here hx rfl (hb hby d1_339) rfl rfl ?_
                      show Steps p.tables e below (T180.setTop (mkF m 340 #[.val (.int p1), .val (.ref a2)] [(.ref b168), (.ref b168), (.ref b166), (.ref b166)])) _
                      refine XS.iconst X180.here hx rfl (hb hby d1_340) ?_
                      show Steps p.tables e below (T180.setTop (mkF m 341 #[.val (.int p1), .val (.ref a2)] [(.int (4 : Int32)), (.ref b168), (.ref b168), (.ref b166), (.ref b166)])) _
                      refine XS.aloadN X180.here hx rfl (hb hby d1_341) rfl rfl ?_
                      show Steps p.tables e below (T180.setTop (mkF m 342 #[.val (.int p1), .val (.ref a2)] [(.ref a2), (.int (4 : Int32)), (.ref b168), (.ref b168), (.ref b166), (.ref b166)])) _
                      refine XS.iconst X180.here hx rfl (hb hby d1_342) ?_
                      show Steps p.tables e below (T180.setTop (mkF m 343 #[.val (.int p1), .val (.ref a2)] [(.int (4 : Int32)), (.ref a2), (.int (4 : Int32)), (.ref b168), (.ref b168), (.ref b166), (.ref b166)])) _
                      refine X180.caload hx (j := (4 : Int32)) (v := (.int c4)) (by rw [e180]; exact Ar182.1) (State.isArrayOf_alike hZ.alike Ar182.2.1) Ar182.2.2 (inb_of S182 ⟨by decide, by decide⟩) (show cl182.slots[((4 : Int32)).toNatClampNeg]? = some (.int c4) from H182 4 (by rw [S182]; decide)) (g := (mkF m 343 #[.val (.int p1), .val (.ref a2)] [(.int (4 : Int32)), (.ref a2), (.int (4 : Int32)), (.ref b168), (.ref b168), (.ref b166), (.ref b166)])) rfl rfl (hb hby d1_343) _ ?_
                      show Steps p.tables e below (T180.setTop (mkF m 344 #[.val (.int p1), .val (.ref a2)] [(.int c4), (.int (4 : Int32)), (.ref b168), (.ref b168), (.ref b166), (.ref b166)])) _
                      refine st183 _ ?_
                      show Steps p.tables e below (T183.setTop (mkF m 345 #[.val (.int p1), .val (.ref a2)] [(.ref b168), (.ref b166), (.ref b166)])) _
                      refine XS.dup X183.here hx rfl (hb hby d1_345) rfl rfl ?_
                      show Steps p.tables e below (T183.setTop (mkF m 346 #[.val (.int p1), .val (.ref a2)] [(.ref b168), (.ref b168), (.ref b166), (.ref b166)])) _
                      refine XS.iconst X183.here hx rfl (hb hby d1_346) ?_
                      show Steps p.tables e below (T183.setTop (mkF m 347 #[.val (.int p1), .val (.ref a2)] [(.int (5 : Int32)), (.ref b168), (.ref b168), (.ref b166), (.ref b166)])) _
                      refine XS.aloadN X183.here hx rfl (hb hby d1_347) rfl rfl ?_
                      show Steps p.tables e below (T183.setTop (mkF m 348 #[.val (.int p1), .val (.ref a2)] [(.ref a2), (.int (5 : Int32)), (.ref b168), (.ref b168), (.ref b166), (.ref b166)])) _
                      refine XS.iconst X183.here hx rfl (hb hby d1_348) ?_
                      show Steps p.tables e below (T183.setTop (mkF m 349 #[.val (.int p1), .val (.ref a2)] [(.int (5 : Int32)), (.ref a2), (.int (5 : Int32)), (.ref b168), (.ref b168), (.ref b166), (.ref b166)])) _
                      refine X183.caload hx (j := (5 : Int32)) (v := (.int c5)) (by rw [e183]; exact Ar185.1) (State.isArrayOf_alike hZ.alike Ar185.2.1) Ar185.2.2 (inb_of S185 ⟨by decide, by decide⟩) (show cl185.slots[((5 : Int32)).toNatClampNeg]? = some (.int c5) from H185 5 (by rw [S185]; decide)) (g := (mkF m 349 #[.val (.int p1), .val (.ref a2)] [(.int (5 : Int32)), (.ref a2), (.int (5 : Int32)), (.ref b168), (.ref b168), (.ref b166), (.ref b166)])) rfl rfl (hb hby d1_349) _ ?_
                      show Steps p.tables e below (T183.setTop (mkF m 350 #[.val (.int p1), .val (.ref a2)] [(.int c5), (.int (5 : Int32)), (.ref b168), (.ref b168), (.ref b166), (.ref b166)])) _
                      refine st186 _ ?_
                      show Steps p.tables e below (T186.setTop (mkF m 351 #[.val (.int p1), .val (.ref a2)] [(.ref b168), (.ref b166), (.ref b166)])) _
                      refine XS.dup X186.here hx rfl (hb hby d1_351) rfl rfl ?_
                      show Steps p.tables e below (T186.setTop (mkF m 352 #[.val (.int p1), .val (.ref a2)] [(.ref b168), (.ref b168), (.ref b166), (.ref b166)])) _
                      refine XS.bipush X186.here hx rfl (hb hby d1_352) ?_
                      show Steps p.tables e below (T186.setTop (mkF m 354 #[.val (.int p1), .val (.ref a2)] [(.int (6 : Int32)), (.ref b168), (.ref b168), (.ref b166), (.ref b166)])) _
                      refine XS.aloadN X186.here hx rfl (hb hby d1_354) rfl rfl ?_
                      show Steps p.tables e below (T186.setTop (mkF m 355 #[.val (.int p1), .val (.ref a2)] [(.ref a2), (.int (6 : Int32)), (.ref b168), (.ref b168), (.ref b166), (.ref b166)])) _
                      refine XS.bipush X186.here hx rfl (hb hby d1_355) ?_
                      show Steps p.tables e below (T186.setTop (mkF m 357 #[.val (.int p1), .val (.ref a2)] [(.int (6 : Int32)), (.ref a2), (.int (6 : Int32)), (.ref b168), (.ref b168), (.ref b166), (.ref b166)])) _
                      refine X186.caload hx (j := (6 : Int32)) (v := (.int c6)) (by rw [e186]; exact Ar188.1) (State.isArrayOf_alike hZ.alike Ar188.2.1) Ar188.2.2 (inb_of S188 ⟨by decide, by decide⟩) (show cl188.slots[((6 : Int32)).toNatClampNeg]? = some (.int c6) from H188 6 (by rw [S188]; decide)) (g := (mkF m 357 #[.val (.int p1), .val (.ref a2)] [(.int (6 : Int32)), (.ref a2), (.int (6 : Int32)), (.ref b168), (.ref b168), (.ref b166), (.ref b166)])) rfl rfl (hb hby d1_357) _ ?_
                      show Steps p.tables e below (T186.setTop (mkF m 358 #[.val (.int p1), .val (.ref a2)] [(.int c6), (.int (6 : Int32)), (.ref b168), (.ref b168), (.ref b166), (.ref b166)])) _
                      refine st189 _ ?_
                      show Steps p.tables e below (T189.setTop (mkF m 359 #[.val (.int p1), .val (.ref a2)] [(.ref b168), (.ref b166), (.ref b166)])) _
                      refine XS.dup X189.here hx rfl (hb hby d1_359) rfl rfl ?_
                      show Steps p.tables e below (T189.setTop (mkF m 360 #[.val (.int p1), .val (.ref a2)] [(.ref b168), (.ref b168), (.ref b166), (.ref b166)])) _
                      refine XS.bipush X189.here hx rfl (hb hby d1_360) ?_
                      show Steps p.tables e below (T189.setTop (mkF m 362 #[.val (.int p1), .val (.ref a2)] [(.int (7 : Int32)), (.ref b168), (.ref b168), (.ref b166), (.ref b166)])) _
                      refine XS.aloadN X189.here hx rfl (hb hby d1_362) rfl rfl ?_
                      show Steps p.tables e below (T189.setTop (mkF m 363 #[.val (.int p1), .val (.ref a2)] [(.ref a2), (.int (7 : Int32)), (.ref b168), (.ref b168), (.ref b166), (.ref b166)])) _
                      refine XS.bipush X189.here hx rfl (hb hby d1_363) ?_
                      show Steps p.tables e below (T189.setTop (mkF m 365 #[.val (.int p1), .val (.ref a2)] [(.int (7 : Int32)), (.ref a2), (.int (7 : Int32)), (.ref b168), (.ref b168), (.ref b166), (.ref b166)])) _
                      refine X189.caload hx (j := (7 : Int32)) (v := (.int c7)) (by rw [e189]; exact Ar191.1) (State.isArrayOf_alike hZ.alike Ar191.2.1) Ar191.2.2 (inb_of S191 ⟨by decide, by decide⟩) (show cl191.slots[((7 : Int32)).toNatClampNeg]? = some (.int c7) from H191 7 (by rw [S191]; decide)) (g := (mkF m 365 #[.val (.int p1), .val (.ref a2)] [(.int (7 : Int32)), (.ref a2), (.int (7 : Int32)), (.ref b168), (.ref b168), (.ref b166), (.ref b166)])) rfl rfl (hb hby d1_365) _ ?_
                      show Steps p.tables e below (T189.setTop (mkF m 366 #[.val (.int p1), .val (.ref a2)] [(.int c7), (.int (7 : Int32)), (.ref b168), (.ref b168), (.ref b166), (.ref b166)])) _
                      refine st192 _ ?_
                      show Steps p.tables e below (T192.setTop (mkF m 367 #[.val (.int p1), .val (.ref a2)] [(.ref b168), (.ref b166), (.ref b166)])) _
                      refine st197.trans ?_
                      show Steps p.tables e below (T197.setTop (mkF m 370 #[.val (.int p1), .val (.ref a2)] [(.ref b166)])) _
                      jvm_step X197.here [X197.here.top, hx, (hb hby d1_370), X197.method', Bd.returns, Value.isRef, FieldType.isReference]
                      first | (intro acts; rw [hr _ acts rfl rfl rfl]) | rw [hr _ _ rfl rfl rfl]
                      exact Steps.refl _
                    · show Q_rmT Z p1 a2 kd zc c0 c1 c2 c3 c4 c5 c6 c7 c8 h0 n0 _ T197.heap T197.vm _
                      exact ⟨b166, t197, k197_, [c0, c1, c2, c3, c4, c5, c6, c7], (8 : Int32), _, rfl, N197, K197, A197q, F197q, C197q, B197q, StrChars.Road.codOf (cs := [c0, c1, c2, c3, c4, c5, c6, c7]) (n := 8) rfl (fun c hc => (hbb c hc).2), own_up hbb, (by show 8 ≤ 4000; decide), own_ib (X197.warmed.interned_eq.trans hin0)⟩
                  · obtain ⟨T198, h198, X198, e198, E198, A198, D198, -, st198⟩ := newO X0 hx hZ hown (hw _ (List.mem_of_getElem? (i := 7) rfl)) (hw _ (List.mem_of_getElem? (i := 8) rfl)) (hw _ (List.mem_of_getElem? (i := 9) rfl)) e0 (g := (mkF m 371 #[.val (.int p1), .val (.ref a2)] [])) rfl (hb hby d1_371) (by decide) (by decide)
                    obtain ⟨b198, g198⟩ : ∃ z, z = h0.size := ⟨_, rfl⟩
                    rw [← g198] at A198 D198 st198
                    have ne_a2_b198 : a2 ≠ b198 := Nat.ne_of_lt (Nat.lt_of_lt_of_le V_a2.lt (Nat.le_of_eq g198.symm))
                    have g_b198 : n0 ≤ b198 := Nat.le_trans Z0 (Nat.le_of_eq g198.symm)
                    have sz_b198 : h0.size ≤ b198 := Nat.le_trans ((Keep.refl h0 [])).1 (Nat.le_of_eq g198.symm)
                    have K198 : Keep h0 h198 [] := ((Keep.refl h0 [])).ext E198
                    have F198_coder : Fld Z h198 b198 "java/lang/String" "coder" "B" (.int (0 : Int32)) := D198 (Or.inr (hw _ (List.mem_of_getElem? (i := 33) rfl))) (ty := .byte) (by decide)
                    have F198_value : Fld Z h198 b198 "java/lang/String" "value" "[B" .null := D198 (Or.inr (hw _ (List.mem_of_getElem? (i := 35) rfl))) (ty := (.array .byte)) (by decide)
                    have f199 := (V_a2.ext E198)
                    obtain ⟨T200, h200, k200, X200, e200, E200, A200, st200⟩ := newP X198 hx hZ (hw _ (List.mem_of_getElem? (i := 1) rfl)) e198 (g := (mkF m 377 #[.val (.int p1), .val (.ref a2)] [(.int (9 : Int32)), (.ref b198), (.ref b198)])) rfl (hb hby d1_377) rfl (by decide) (cap := 9) (by decide) (by decide) (by decide) (by decide)
                    obtain ⟨b200, g200⟩ : ∃ z, z = h198.size := ⟨_, rfl⟩
                    rw [← g200] at A200 st200
                    have ne_a2_b200 : a2 ≠ b200 := Nat.ne_of_lt (Nat.lt_of_lt_of_le f199.lt (Nat.le_of_eq g200.symm))
                    have ne_b198_b200 : b198 ≠ b200 := Nat.ne_of_lt (Nat.lt_of_lt_of_le A198.lt (Nat.le_of_eq g200.symm))
                    have V_b200 : Arv Z h200 b200 k200 .char (9 : Int32) [(.int (0 : Int32)), (.int (0 : Int32)), (.int (0 : Int32)), (.int (0 : Int32)), (.int (0 : Int32)), (.int (0 : Int32)), (.int (0 : Int32)), (.int (0 : Int32)), (.int (0 : Int32))] (.int (0 : Int32)) := (Arv.new A200 (by decide)).pad (pad_rep [] (.int (0 : Int32)) 9)
                    have g_b200 : n0 ≤ b200 := Nat.le_trans (Nat.le_trans Z0 K198.1) (Nat.le_of_eq g200.symm)
                    have sz_b200 : h0.size ≤ b200 := Nat.le_trans (K198).1 (Nat.le_of_eq g200.symm)
                    have K200 : Keep h0 h200 [] := (K198).ext E200
                    have f201 := (f199.ext E200)
                    obtain ⟨cl202, Ar202, q202, S202, N202_, H202, G202⟩ := id f201
                    obtain ⟨cl203, Ar203, q203, S203, N203_, H203, G203⟩ := id V_b200
                    obtain ⟨T203, h203, X203, e203, W203, st203⟩ := stC X200 hx hZ e200 Ar203 (j := (0 : Int32)) (inb_of S203 ⟨by decide, by decide⟩) (g := (mkF m 384 #[.val (.int p1), .val (.ref a2)] [(.int c0), (.int (0 : Int32)), (.ref b200), (.ref b200), (.ref b198), (.ref b198)])) rfl rfl (hb hby d1_384)
                    have V203 := Arv.set Ar203 q203 S203 N203_ H203 G203 (fits_nar_char _) W203 0 rfl (Nat.le_of_ble_eq_true rfl)
                    have K203 : Keep h0 h203 [] := (K200).wr W203 (Or.inr sz_b200)
                    have N203 := Fr.snoc X203 N0 g_b200
                    have f204 := (f201.other W203 ne_a2_b200)
                    obtain ⟨cl205, Ar205, q205, S205, N205_, H205, G205⟩ := id f204
                    obtain ⟨cl206, Ar206, q206, S206, N206_, H206, G206⟩ := id V203
                    obtain ⟨T206, h206, X206, e206, W206, st206⟩ := stC X203 hx hZ e203 Ar206 (j := (1 : Int32)) (inb_of S206 ⟨by decide, by decide⟩) (g := (mkF m 390 #[.val (.int p1), .val (.ref a2)] [(.int c1), (.int (1 : Int32)), (.ref b200), (.ref b200), (.ref b198), (.ref b198)])) rfl rfl (hb hby d1_390)
                    have V206 := Arv.set Ar206 q206 S206 N206_ H206 G206 (fits_nar_char _) W206 1 rfl (Nat.le_of_ble_eq_true rfl)
                    have K206 : Keep h0 h206 [] := (K203).wr W206 (Or.inr sz_b200)
                    have N206 := Fr.snoc X206 N203 g_b200
                    have f207 := (f204.other W206 ne_a2_b200)
                    obtain ⟨cl208, Ar208, q208, S208, N208_, H208, G208⟩ := id f207
                    obtain ⟨cl209, Ar209, q209, S209, N209_, H209, G209⟩ := id V206
                    obtain ⟨T209, h209, X209, e209, W209, st209⟩ := stC X206 hx hZ e206 Ar209 (j := (2 : Int32)) (inb_of S209 ⟨by decide, by decide⟩) (g := (mkF m 396 #[.val (.int p1), .val (.ref a2)] [(.int c2), (.int (2 : Int32)), (.ref b200), (.ref b200), (.ref b198), (.ref b198)])) rfl rfl (hb hby d1_396)
                    have V209 := Arv.set Ar209 q209 S209 N209_ H209 G209 (fits_nar_char _) W209 2 rfl (Nat.le_of_ble_eq_true rfl)
                    have K209 : Keep h0 h209 [] := (K206).wr W209 (Or.inr sz_b200)
                    have N209 := Fr.snoc X209 N206 g_b200
                    have f210 := (f207.other W209 ne_a2_b200)
                    obtain ⟨cl211, Ar211, q211, S211, N211_, H211, G211⟩ := id f210
                    obtain ⟨cl212, Ar212, q212, S212, N212_, H212, G212⟩ := id V209
                    obtain ⟨T212, h212, X212, e212, W212, st212⟩ := stC X209 hx hZ e209 Ar212 (j := (3 : Int32)) (inb_of S212 ⟨by decide, by decide⟩) (g := (mkF m 402 #[.val (.int p1), .val (.ref a2)] [(.int c3), (.int (3 : Int32)), (.ref b200), (.ref b200), (.ref b198), (.ref b198)])) rfl rfl (hb hby d1_402)
                    have V212 := Arv.set Ar212 q212 S212 N212_ H212 G212 (fits_nar_char _) W212 3 rfl (Nat.le_of_ble_eq_true rfl)
                    have K212 : Keep h0 h212 [] := (K209).wr W212 (Or.inr sz_b200)
                    have N212 := Fr.snoc X212 N209 g_b200
                    have f213 := (f210.other W212 ne_a2_b200)
                    obtain ⟨cl214, Ar214, q214, S214, N214_, H214, G214⟩ := id f213
                    obtain ⟨cl215, Ar215, q215, S215, N215_, H215, G215⟩ := id V212
                    obtain ⟨T215, h215, X215, e215, W215, st215⟩ := stC X212 hx hZ e212 Ar215 (j := (4 : Int32)) (inb_of S215 ⟨by decide, by decide⟩) (g := (mkF m 408 #[.val (.int p1), .val (.ref a2)] [(.int c4), (.int (4 : Int32)), (.ref b200), (.ref b200), (.ref b198), (.ref b198)])) rfl rfl (hb hby d1_408)
                    have V215 := Arv.set Ar215 q215 S215 N215_ H215 G215 (fits_nar_char _) W215 4 rfl (Nat.le_of_ble_eq_true rfl)
                    have K215 : Keep h0 h215 [] := (K212).wr W215 (Or.inr sz_b200)
                    have N215 := Fr.snoc X215 N212 g_b200
                    have f216 := (f213.other W215 ne_a2_b200)
                    obtain ⟨cl217, Ar217, q217, S217, N217_, H217, G217⟩ := id f216
                    obtain ⟨cl218, Ar218, q218, S218, N218_, H218, G218⟩ := id V215
                    obtain ⟨T218, h218, X218, e218, W218, st218⟩ := stC X215 hx hZ e215 Ar218 (j := (5 : Int32)) (inb_of S218 ⟨by decide, by decide⟩) (g := (mkF m 414 #[.val (.int p1), .val (.ref a2)] [(.int c5), (.int (5 : Int32)), (.ref b200), (.ref b200), (.ref b198), (.ref b198)])) rfl rfl (hb hby d1_414)
                    have V218 := Arv.set Ar218 q218 S218 N218_ H218 G218 (fits_nar_char _) W218 5 rfl (Nat.le_of_ble_eq_true rfl)
                    have K218 : Keep h0 h218 [] := (K215).wr W218 (Or.inr sz_b200)
                    have N218 := Fr.snoc X218 N215 g_b200
                    have f219 := (f216.other W218 ne_a2_b200)
                    obtain ⟨cl220, Ar220, q220, S220, N220_, H220, G220⟩ := id f219
                    obtain ⟨cl221, Ar221, q221, S221, N221_, H221, G221⟩ := id V218
                    obtain ⟨T221, h221, X221, e221, W221, st221⟩ := stC X218 hx hZ e218 Ar221 (j := (6 : Int32)) (inb_of S221 ⟨by decide, by decide⟩) (g := (mkF m 422 #[.val (.int p1), .val (.ref a2)] [(.int c6), (.int (6 : Int32)), (.ref b200), (.ref b200), (.ref b198), (.ref b198)])) rfl rfl (hb hby d1_422)
                    have V221 := Arv.set Ar221 q221 S221 N221_ H221 G221 (fits_nar_char _) W221 6 rfl (Nat.le_of_ble_eq_true rfl)
                    have K221 : Keep h0 h221 [] := (K218).wr W221 (Or.inr sz_b200)
                    have N221 := Fr.snoc X221 N218 g_b200
                    have f222 := (f219.other W221 ne_a2_b200)
                    obtain ⟨cl223, Ar223, q223, S223, N223_, H223, G223⟩ := id f222
                    obtain ⟨cl224, Ar224, q224, S224, N224_, H224, G224⟩ := id V221
                    obtain ⟨T224, h224, X224, e224, W224, st224⟩ := stC X221 hx hZ e221 Ar224 (j := (7 : Int32)) (inb_of S224 ⟨by decide, by decide⟩) (g := (mkF m 430 #[.val (.int p1), .val (.ref a2)] [(.int c7), (.int (7 : Int32)), (.ref b200), (.ref b200), (.ref b198), (.ref b198)])) rfl rfl (hb hby d1_430)
                    have V224 := Arv.set Ar224 q224 S224 N224_ H224 G224 (fits_nar_char _) W224 7 rfl (Nat.le_of_ble_eq_true rfl)
                    have K224 : Keep h0 h224 [] := (K221).wr W224 (Or.inr sz_b200)
                    have N224 := Fr.snoc X224 N221 g_b200
                    have f225 := (f222.other W224 ne_a2_b200)
                    obtain ⟨cl226, Ar226, q226, S226, N226_, H226, G226⟩ := id f225
                    obtain ⟨cl227, Ar227, q227, S227, N227_, H227, G227⟩ := id V224
                    obtain ⟨T227, h227, X227, e227, W227, st227⟩ := stC X224 hx hZ e224 Ar227 (j := (8 : Int32)) (inb_of S227 ⟨by decide, by decide⟩) (g := (mkF m 438 #[.val (.int p1), .val (.ref a2)] [(.int c8), (.int (8 : Int32)), (.ref b200), (.ref b200), (.ref b198), (.ref b198)])) rfl rfl (hb hby d1_438)
                    have V227 := Arv.set Ar227 q227 S227 N227_ H227 G227 (fits_nar_char _) W227 8 rfl (Nat.le_of_ble_eq_true rfl)
                    have K227 : Keep h0 h227 [] := (K224).wr W227 (Or.inr sz_b200)
                    have N227 := Fr.snoc X227 N224 g_b200
                    have f228 := (Exa.wr W227 (Exa.wr W224 (Exa.wr W221 (Exa.wr W218 (Exa.wr W215 (Exa.wr W212 (Exa.wr W209 (Exa.wr W206 (Exa.wr W203 (Exa.ext E200 A198))))))))))
                    have f229 := (Fld.other W227 (Fld.other W224 (Fld.other W221 (Fld.other W218 (Fld.other W215 (Fld.other W212 (Fld.other W209 (Fld.other W206 (Fld.other W203 (Fld.ext E200 F198_value) (Or.inl ne_b198_b200)) (Or.inl ne_b198_b200)) (Or.inl ne_b198_b200)) (Or.inl ne_b198_b200)) (Or.inl ne_b198_b200)) (Or.inl ne_b198_b200)) (Or.inl ne_b198_b200)) (Or.inl ne_b198_b200)) (Or.inl ne_b198_b200))
                    have f230 := (Fld.other W227 (Fld.other W224 (Fld.other W221 (Fld.other W218 (Fld.other W215 (Fld.other W212 (Fld.other W209 (Fld.other W206 (Fld.other W203 (Fld.ext E200 F198_coder) (Or.inl ne_b198_b200)) (Or.inl ne_b198_b200)) (Or.inl ne_b198_b200)) (Or.inl ne_b198_b200)) (Or.inl ne_b198_b200)) (Or.inl ne_b198_b200)) (Or.inl ne_b198_b200)) (Or.inl ne_b198_b200)) (Or.inl ne_b198_b200))
                    have V231 : Arv Z h227 b200 k200 .char (9 : Int32) (([c0, c1, c2, c3, c4, c5, c6, c7, c8] : List Int32).map Value.int) (.int (0 : Int32)) := by have q := V227; simp only [own_narc hbn.1, own_narc hbn.2.1, own_narc hbn.2.2.1, own_narc hbn.2.2.2.1, own_narc hbn.2.2.2.2.1, own_narc hbn.2.2.2.2.2.1, own_narc hbn.2.2.2.2.2.2.1, own_narc hbn.2.2.2.2.2.2.2.1, own_narc hbn.2.2.2.2.2.2.2.2] at q; exact q
                    have hbb : ∀ c ∈ ([c0, c1, c2, c3, c4, c5, c6, c7, c8] : List Int32), ¬ c < 0 ∧ ¬ (255 : Int32) < c := by intro c hc; simp only [List.mem_cons, List.not_mem_nil, or_false] at hc; rcases hc with hc | hc | hc | hc | hc | hc | hc | hc | hc <;> (subst hc; first | exact hbn.1 | exact hbn.2.1 | exact hbn.2.2.1 | exact hbn.2.2.2.1 | exact hbn.2.2.2.2.1 | exact hbn.2.2.2.2.2.1 | exact hbn.2.2.2.2.2.2.1 | exact hbn.2.2.2.2.2.2.2.1 | exact hbn.2.2.2.2.2.2.2.2)
                    have hws : ∀ d ∈ StrChars.Road.words, d.before a0 Z = true := fun d hd => hw d ((by decide +kernel : ∀ d ∈ StrChars.Road.words, d ∈ tables_1) d hd)
                    obtain ⟨_, _, ⟨T232, L232, k232, n232⟩, -, X232, ⟨Lc232, hQ232, l232, y232, z232⟩, st232⟩ := X227.specialBack hx (y := (⟨"java/lang/String", "<init>", "([C)V"⟩ : MethodName)) rfl hown (mvT hZ (hw _ (List.mem_of_getElem? (i := 10) rfl))) (mvT hZ (hw _ (List.mem_of_getElem? (i := 11) rfl))) (mvT hZ (hw _ (List.mem_of_getElem? (i := 12) rfl))) (by decide) (StrChars.Road.backV (W := 1) hZ hws (kI := 4) (hw _ (List.mem_of_getElem? (i := 8) rfl)) (cs := [c0, c1, c2, c3, c4, c5, c6, c7, c8]) (bs := ([c0, c1, c2, c3, c4, c5, c6, c7, c8] : List Int32).map (fun c => c.toInt8.toInt32)) (n := 9) g_b198 (Nat.le_trans Z0 K227.1) f228 f229 f230 V231 (Sta.ext (own_keep_ext K227) S_C) hzc rfl rfl (by decide) (by decide) hbb rfl (by decide) (by decide)) (g := (mkF m 439 #[.val (.int p1), .val (.ref a2)] [(.ref b200), (.ref b198), (.ref b198)])) rfl (by rw [hml]; rfl) (Steps.refl _) (a := b198) (argsL := [(.ref b200)]) (rest := [(.ref b198)]) (lenOf pd_rmT_0 rfl) rfl (by show 2 * 0 + _ ≤ _; exact Nat.le_of_eq rfl) (hb hby d1_439) (fun _ _ => ⟨rfl, e227, (by decide : 2 + 1 ≤ _), (by decide : 13 + 9 ≤ _)⟩)
                    dsimp only [Pt.U, Pt.locs, Pt.cells, Pt.slots] at X232 l232 y232 z232 st232 hQ232
                    subst l232 y232 z232
                    obtain ⟨rfl, N232q, K232q, A232q, C232q, t232, k232_, g2321, g2322, g2323, F232q, B232q⟩ := hQ232
                    have N232 := Fr.app N227 N232q
                    have K232 : Keep h0 T232.heap [] := (K227).trans K232q (allS (Or.inr sz_b198) all0)
                    obtain ⟨fs, hr, hrun, hended, hRW⟩ := Jvm.Stand.leaveW (s := s) (vm₁ := s.vm) X232 hS0 (show _ ≤ T232.heap.size by exact (Nat.le_trans (Nat.le_trans (Nat.le_trans (Nat.le_trans (Nat.le_trans (Nat.le_trans (Nat.le_trans (Nat.le_trans (Nat.le_trans (Nat.le_trans (Nat.le_trans (Nat.le_trans (Nat.zero_le _) (E198).1) (E200).1) (Keep.of_wr W203).1) (Keep.of_wr W206).1) (Keep.of_wr W209).1) (Keep.of_wr W212).1) (Keep.of_wr W215).1) (Keep.of_wr W218).1) (Keep.of_wr W221).1) (Keep.of_wr W224).1) (Keep.of_wr W227).1) (K232q).1)) (v := some (.ref b198)) (fun h => by rw [Bd.returns] at h; cases h)
                    refine ⟨_, _, pre164 _ ?_, hrun, hended, _, _, rfl, ?_, hRW.1, hRW.2.1, hRW.2.2.1, hRW.2.2.2.mono (by decide) (by decide)⟩
                    · show Steps p.tables e below (s₁.setTop (mkF m 304 #[.val (.int p1), .val (.ref a2)] [(.int (8 : Int32)), (.int p1)])) _
                      refine XS.icmpYes X0.here hx rfl (pc0 := 304) (pc' := 371) rfl (hb hby d1_304) rfl (feq hc165).2 (by decide) (by decide) ?_
                      show Steps p.tables e below (s₁.setTop (mkF m 371 #[.val (.int p1), .val (.ref a2)] [])) _
                      refine st198 _ ?_
                      show Steps p.tables e below (T198.setTop (mkF m 374 #[.val (.int p1), .val (.ref a2)] [(.ref b198)])) _
                      refine XS.dup X198.here hx rfl (hb hby d1_374) rfl rfl ?_
                      show Steps p.tables e below (T198.setTop (mkF m 375 #[.val (.int p1), .val (.ref a2)] [(.ref b198), (.ref b198)])) _
                      refine XS.bipush X198.here hx rfl (hb hby d1_375) ?_
                      show Steps p.tables e below (T198.setTop (mkF m 377 #[.val (.int p1), .val (.ref a2)] [(.int (9 : Int32)), (.ref b198), (.ref b198)])) _
                      refine st200 _ ?_
                      show Steps p.tables e below (T200.setTop (mkF m 379 #[.val (.int p1), .val (.ref a2)] [(.ref b200), (.ref b198), (.ref b198)])) _
                      refine XS.dup X200.here hx rfl (hb hby d1_379) rfl rfl ?_
                      show Steps p.tables e below (T200.setTop (mkF m 380 #[.val (.int p1), .val (.ref a2)] [(.ref b200), (.ref b200), (.ref b198), (.ref b198)])) _
                      refine XS.iconst X200.here hx rfl (hb hby d1_380) ?_
                      show Steps p.tables e below (T200.setTop (mkF m 381 #[.val (.int p1), .val (.ref a2)] [(.int (0 : Int32)), (.ref b200), (.ref b200), (.ref b198), (.ref b198)])) _
                      refine XS.aloadN X200.here hx rfl (hb hby d1_381) rfl rfl ?_
                      show Steps p.tables e below (T200.setTop (mkF m 382 #[.val (.int p1), .val (.ref a2)] [(.ref a2), (.int (0 : Int32)), (.ref b200), (.ref b200), (.ref b198), (.ref b198)])) _
                      refine XS.iconst X200.here hx rfl (hb hby d1_382) ?_
                      show Steps p.tables e below (T200.setTop (mkF m 383 #[.val (.int p1), .val (.ref a2)] [(.int (0 : Int32)), (.ref a2), (.int (0 : Int32)), (.ref b200), (.ref b200), (.ref b198), (.ref b198)])) _
                      refine X200.caload hx (j := (0 : Int32)) (v := (.int c0)) (by rw [e200]; exact Ar202.1) (State.isArrayOf_alike hZ.alike Ar202.2.1) Ar202.2.2 (inb_of S202 ⟨by decide, by decide⟩) (show cl202.slots[((0 : Int32)).toNatClampNeg]? = some (.int c0) from H202 0 (by rw [S202]; decide)) (g := (mkF m 383 #[.val (.int p1), .val (.ref a2)] [(.int (0 : Int32)), (.ref a2), (.int (0 : Int32)), (.ref b200), (.ref b200), (.ref b198), (.ref b198)])) rfl rfl (hb hby d1_383) _ ?_
                      show Steps p.tables e below (T200.setTop (mkF m 384 #[.val (.int p1), .val (.ref a2)] [(.int c0), (.int (0 : Int32)), (.ref b200), (.ref b200), (.ref b198), (.ref b198)])) _
                      refine st203 _ ?_
                      show Steps p.tables e below (T203.setTop (mkF m 385 #[.val (.int p1), .val (.ref a2)] [(.ref b200), (.ref b198), (.ref b198)])) _
                      refine XS.dup X203.here hx rfl (hb hby d1_385) rfl rfl ?_
                      show Steps p.tables e below (T203.setTop (mkF m 386 #[.val (.int p1), .val (.ref a2)] [(.ref b200), (.ref b200), (.ref b198), (.ref b198)])) _
                      refine XS.iconst X203.here hx rfl (hb hby d1_386) ?_
                      show Steps p.tables e below (T203.setTop (mkF m 387 #[.val (.int p1), .val (.ref a2)] [(.int (1 : Int32)), (.ref b200), (.ref b200), (.ref b198), (.ref b198)])) _
                      refine XS.aloadN X203.here hx rfl (hb hby d1_387) rfl rfl ?_
                      show Steps p.tables e below (T203.setTop (mkF m 388 #[.val (.int p1), .val (.ref a2)] [(.ref a2), (.int (1 : Int32)), (.ref b200), (.ref b200), (.ref b198), (.ref b198)])) _
                      refine XS.iconst X203.here hx rfl (hb hby d1_388) ?_
                      show Steps p.tables e below (T203.setTop (mkF m 389 #[.val (.int p1), .val (.ref a2)] [(.int (1 : Int32)), (.ref a2), (.int (1 : Int32)), (.ref b200), (.ref b200), (.ref b198), (.ref b198)])) _
                      refine X203.caload hx (j := (1 : Int32)) (v := (.int c1)) (by rw [e203]; exact Ar205.1) (State.isArrayOf_alike hZ.alike Ar205.2.1) Ar205.2.2 (inb_of S205 ⟨by decide, by decide⟩) (show cl205.slots[((1 : Int32)).toNatClampNeg]? = some (.int c1) from H205 1 (by rw [S205]; decide)) (g := (mkF m 389 #[.val (.int p1), .val (.ref a2)] [(.int (1 : Int32)), (.ref a2), (.int (1 : Int32)), (.ref b200), (.ref b200), (.ref b198), (.ref b198)])) rfl rfl (hb hby d1_389) _ ?_
                      show Steps p.tables e below (T203.setTop (mkF m 390 #[.val (.int p1), .val (.ref a2)] [(.int c1), (.int (1 : Int32)), (.ref b200), (.ref b200), (.ref b198), (.ref b198)])) _
                      refine st206 _ ?_
                      show Steps p.tables e below (T206.setTop (mkF m 391 #[.val (.int p1), .val (.ref a2)] [(.ref b200), (.ref b198), (.ref b198)])) _
                      refine XS.dup X206.here hx rfl (hb hby d1_391) rfl rfl ?_
                      show Steps p.tables e below (T206.setTop (mkF m 392 #[.val (.int p1), .val (.ref a2)] [(.ref b200), (.ref b200), (.ref b198), (.ref b198)])) _
                      refine XS.iconst X206.here hx rfl (hb hby d1_392) ?_
                      show Steps p.tables e below (T206.setTop (mkF m 393 #[.val (.int p1), .val (.ref a2)] [(.int (2 : Int32)), (.ref b200), (.ref b200), (.ref b198), (.ref b198)])) _
                      refine XS.aloadN X206.here hx rfl (hb hby d1_393) rfl rfl ?_
                      show Steps p.tables e below (T206.setTop (mkF m 394 #[.val (.int p1), .val (.ref a2)] [(.ref a2), (.int (2 : Int32)), (.ref b200), (.ref b200), (.ref b198), (.ref b198)])) _
                      refine XS.iconst X206.here hx rfl (hb hby d1_394) ?_
                      show Steps p.tables e below (T206.setTop (mkF m 395 #[.val (.int p1), .val (.ref a2)] [(.int (2 : Int32)), (.ref a2), (.int (2 : Int32)), (.ref b200), (.ref b200), (.ref b198), (.ref b198)])) _
                      refine X206.caload hx (j := (2 : Int32)) (v := (.int c2)) (by rw [e206]; exact Ar208.1) (State.isArrayOf_alike hZ.alike Ar208.2.1) Ar208.2.2 (inb_of S208 ⟨by decide, by decide⟩) (show cl208.slots[((2 : Int32)).toNatClampNeg]? = some (.int c2) from H208 2 (by rw [S208]; decide)) (g := (mkF m 395 #[.val (.int p1), .val (.ref a2)] [(.int (2 : Int32)), (.ref a2), (.int (2 : Int32)), (.ref b200), (.ref b200), (.ref b198), (.ref b198)])) rfl rfl (hb hby d1_395) _ ?_
                      show Steps p.tables e below (T206.setTop (mkF m 396 #[.val (.int p1), .val (.ref a2)] [(.int c2), (.int (2 : Int32)), (.ref b200), (.ref b200), (.ref b198), (.ref b198)])) _
                      refine st209 _ ?_
                      show Steps p.tables e below (T209.setTop (mkF m 397 #[.val (.int p1), .val (.ref a2)] [(.ref b200), (.ref b198), (.ref b198)])) _
                      refine XS.dup X209.here hx rfl (hb hby d1_397) rfl rfl ?_
                      show Steps p.tables e below (T209.setTop (mkF m 398 #[.val (.int p1), .val (.ref a2)] [(.ref b200), (.ref b200), (.ref b198), (.ref b198)])) _
                      refine XS.iconst X209.here hx rfl (hb hby d1_398) ?_
                      show Steps p.tables e below (T209.setTop (mkF m 399 #[.val (.int p1), .val (.ref a2)] [(.int (3 : Int32)), (.ref b200), (.ref b200), (.ref b198), (.ref b198)])) _
                      refine XS.aloadN X209.here hx rfl (hb hby d1_399) rfl rfl ?_
                      show Steps p.tables e below (T209.setTop (mkF m 400 #[.val (.int p1), .val (.ref a2)] [(.ref a2), (.int (3 : Int32)), (.ref b200), (.ref b200), (.ref b198), (.ref b198)])) _
                      refine XS.iconst X209.here hx rfl (hb hby d1_400) ?_
                      show Steps p.tables e below (T209.setTop (mkF m 401 #[.val (.int p1), .val (.ref a2)] [(.int (3 : Int32)), (.ref a2), (.int (3 : Int32)), (.ref b200), (.ref b200), (.ref b198), (.ref b198)])) _
                      refine X209.caload hx (j := (3 : Int32)) (v := (.int c3)) (by rw [e209]; exact Ar211.1) (State.isArrayOf_alike hZ.alike Ar211.2.1) Ar211.2.2 (inb_of S211 ⟨by decide, by decide⟩) (show cl211.slots[((3 : Int32)).toNatClampNeg]? = some (.int c3) from H211 3 (by rw [S211]; decide)) (g := (mkF m 401 #[.val (.int p1), .val (.ref a2)] [(.int (3 : Int32)), (.ref a2), (.int (3 : Int32)), (.ref b200), (.ref b200), (.ref b198), (.ref b198)])) rfl rfl (hb hby d1_401) _ ?_
                      show Steps p.tables e below (T209.setTop (mkF m 402 #[.val (.int p1), .val (.ref a2)] [(.int c3), (.int (3 : Int32)), (.ref b200), (.ref b200), (.ref b198), (.ref b198)])) _
                      refine st212 _ ?_
                      show Steps p.tables e below (T212.setTop (mkF m 403 #[.val (.int p1), .val (.ref a2)] [(.ref b200), (.ref b198), (.ref b198)])) _
                      refine XS.dup X212.here hx rfl (hb hby d1_403) rfl rfl ?_
                      show Steps p.tables e below (T212.setTop (mkF m 404 #[.val (.int p1), .val (.ref a2)] [(.ref b200), (.ref b200), (.ref b198), (.ref b198)])) _
                      refine XS.iconst X212.here hx rfl (hb hby d1_404) ?_
                      show Steps p.tables e below (T212.setTop (mkF m 405 #[.val (.int p1), .val (.ref a2)] [(.int (4 : Int32)), (.ref b200), (.ref b200), (.ref b198), (.ref b198)])) _
                      refine XS.aloadN X212.here hx rfl (hb hby d1_405) rfl rfl ?_
                      show Steps p.tables e below (T212.setTop (mkF m 406 #[.val (.int p1), .val (.ref a2)] [(.ref a2), (.int (4 : Int32)), (.ref b200), (.ref b200), (.ref b198), (.ref b198)])) _
                      refine XS.iconst X212.here hx rfl (hb hby d1_406) ?_
                      show Steps p.tables e below (T212.setTop (mkF m 407 #[.val (.int p1), .val (.ref a2)] [(.int (4 : Int32)), (.ref a2), (.int (4 : Int32)), (.ref b200), (.ref b200), (.ref b198), (.ref b198)])) _
                      refine X212.caload hx (j := (4 : Int32)) (v := (.int c4)) (by rw [e212]; exact Ar214.1) (State.isArrayOf_alike hZ.alike Ar214.2.1) Ar214.2.2 (inb_of S214 ⟨by decide, by decide⟩) (show cl214.slots[((4 : Int32)).toNatClampNeg]? = some (.int c4) from H214 4 (by rw [S214]; decide)) (g := (mkF m 407 #[.val (.int p1), .val (.ref a2)] [(.int (4 : Int32)), (.ref a2), (.int (4 : Int32)), (.ref b200), (.ref b200), (.ref b198), (.ref b198)])) rfl rfl (hb hby d1_407) _ ?_
                      show Steps p.tables e below (T212.setTop (mkF m 408 #[.val (.int p1), .val (.ref a2)] [(.int c4), (.int (4 : Int32)), (.ref b200), (.ref b200), (.ref b198), (.ref b198)])) _
                      refine st215 _ ?_
                      show Steps p.tables e below (T215.setTop (mkF m 409 #[.val (.int p1), .val (.ref a2)] [(.ref b200), (.ref b198), (.ref b198)])) _
                      refine XS.dup X215.here hx rfl (hb hby d1_409) rfl rfl ?_
                      show Steps p.tables e below (T215.setTop (mkF m 410 #[.val (.int p1), .val (.ref a2)] [(.ref b200), (.ref b200), (.ref b198), (.ref b198)])) _
                      refine XS.iconst X215.here hx rfl (hb hby d1_410) ?_
                      show Steps p.tables e below (T215.setTop (mkF m 411 #[.val (.int p1), .val (.ref a2)] [(.int (5 : Int32)), (.ref b200), (.ref b200), (.ref b198), (.ref b198)])) _
                      refine XS.aloadN X215.here hx rfl (hb hby d1_411) rfl rfl ?_
                      show Steps p.tables e below (T215.setTop (mkF m 412 #[.val (.int p1), .val (.ref a2)] [(.ref a2), (.int (5 : Int32)), (.ref b200), (.ref b200), (.ref b198), (.ref b198)])) _
                      refine XS.iconst X215.here hx rfl (hb hby d1_412) ?_
                      show Steps p.tables e below (T215.setTop (mkF m 413 #[.val (.int p1), .val (.ref a2)] [(.int (5 : Int32)), (.ref a2), (.int (5 : Int32)), (.ref b200), (.ref b200), (.ref b198), (.ref b198)])) _
                      refine X215.caload hx (j := (5 : Int32)) (v := (.int c5)) (by rw [e215]; exact Ar217.1) (State.isArrayOf_alike hZ.alike Ar217.2.1) Ar217.2.2 (inb_of S217 ⟨by decide, by decide⟩) (show cl217.slots[((5 : Int32)).toNatClampNeg]? = some (.int c5) from H217 5 (by rw [S217]; decide)) (g := (mkF m 413 #[.val (.int p1), .val (.ref a2)] [(.int (5 : Int32)), (.ref a2), (.int (5 : Int32)), (.ref b200), (.ref b200), (.ref b198), (.ref b198)])) rfl rfl (hb hby d1_413) _ ?_
                      show Steps p.tables e below (T215.setTop (mkF m 414 #[.val (.int p1), .val (.ref a2)] [(.int c5), (.int (5 : Int32)), (.ref b200), (.ref b200), (.ref b198), (.ref b198)])) _
                      refine st218 _ ?_
                      show Steps p.tables e below (T218.setTop (mkF m 415 #[.val (.int p1), .val (.ref a2)] [(.ref b200), (.ref b198), (.ref b198)])) _
                      refine XS.dup X218.here hx rfl (hb hby d1_415) rfl rfl ?_
                      show Steps p.tables e below (T218.setTop (mkF m 416 #[.val (.int p1), .val (.ref a2)] [(.ref b200), (.ref b200), (.ref b198), (.ref b198)])) _
                      refine XS.bipush X218.here hx rfl (hb hby d1_416) ?_
                      show Steps p.tables e below (T218.setTop (mkF m 418 #[.val (.int p1), .val (.ref a2)] [(.int (6 : Int32)), (.ref b200), (.ref b200), (.ref b198), (.ref b198)])) _
                      refine XS.aloadN X218.here hx rfl (hb hby d1_418) rfl rfl ?_
                      show Steps p.tables e below (T218.setTop (mkF m 419 #[.val (.int p1), .val (.ref a2)] [(.ref a2), (.int (6 : Int32)), (.ref b200), (.ref b200), (.ref b198), (.ref b198)])) _
                      refine XS.bipush X218.here hx rfl (hb hby d1_419) ?_
                      show Steps p.tables e below (T218.setTop (mkF m 421 #[.val (.int p1), .val (.ref a2)] [(.int (6 : Int32)), (.ref a2), (.int (6 : Int32)), (.ref b200), (.ref b200), (.ref b198), (.ref b198)])) _
                      refine X218.caload hx (j := (6 : Int32)) (v := (.int c6)) (by rw [e218]; exact Ar220.1) (State.isArrayOf_alike hZ.alike Ar220.2.1) Ar220.2.2 (inb_of S220 ⟨by decide, by decide⟩) (show cl220.slots[((6 : Int32)).toNatClampNeg]? = some (.int c6) from H220 6 (by rw [S220]; decide)) (g := (mkF m 421 #[.val (.int p1), .val (.ref a2)] [(.int (6 : Int32)), (.ref a2), (.int (6 : Int32)), (.ref b200), (.ref b200), (.ref b198), (.ref b198)])) rfl rfl (hb hby d1_421) _ ?_
                      show Steps p.tables e below (T218.setTop (mkF m 422 #[.val (.int p1), .val (.ref a2)] [(.int c6), (.int (6 : Int32)), (.ref b200), (.ref b200), (.ref b198), (.ref b198)])) _
                      refine st221 _ ?_
                      show Steps p.tables e below (T221.setTop (mkF m 423 #[.val (.int p1), .val (.ref a2)] [(.ref b200), (.ref b198), (.ref b198)])) _
                      refine XS.dup X221.here hx rfl (hb hby d1_423) rfl rfl ?_
                      show Steps p.tables e below (T221.setTop (mkF m 424 #[.val (.int p1), .val (.ref a2)] [(.ref b200), (.ref b200), (.ref b198), (.ref b198)])) _
                      refine XS.bipush X221.here hx rfl (hb hby d1_424) ?_
                      show Steps p.tables e below (T221.setTop (mkF m 426 #[.val (.int p1), .val (.ref a2)] [(.int (7 : Int32)), (.ref b200), (.ref b200), (.ref b198), (.ref b198)])) _
                      refine XS.aloadN X221.here hx rfl (hb hby d1_426) rfl rfl ?_
                      show Steps p.tables e below (T221.setTop (mkF m 427 #[.val (.int p1), .val (.ref a2)] [(.ref a2), (.int (7 : Int32)), (.ref b200), (.ref b200), (.ref b198), (.ref b198)])) _
                      refine XS.bipush X221.here hx rfl (hb hby d1_427) ?_
                      show Steps p.tables e below (T221.setTop (mkF m 429 #[.val (.int p1), .val (.ref a2)] [(.int (7 : Int32)), (.ref a2), (.int (7 : Int32)), (.ref b200), (.ref b200), (.ref b198), (.ref b198)])) _
                      refine X221.caload hx (j := (7 : Int32)) (v := (.int c7)) (by rw [e221]; exact Ar223.1) (State.isArrayOf_alike hZ.alike Ar223.2.1) Ar223.2.2 (inb_of S223 ⟨by decide, by decide⟩) (show cl223.slots[((7 : Int32)).toNatClampNeg]? = some (.int c7) from H223 7 (by rw [S223]; decide)) (g := (mkF m 429 #[.val (.int p1), .val (.ref a2)] [(.int (7 : Int32)), (.ref a2), (.int (7 : Int32)), (.ref b200), (.ref b200), (.ref b198), (.ref b198)])) rfl rfl (hb hby d1_429) _ ?_
                      show Steps p.tables e below (T221.setTop (mkF m 430 #[.val (.int p1), .val (.ref a2)] [(.int c7), (.int (7 : Int32)), (.ref b200), (.ref b200), (.ref b198), (.ref b198)])) _
                      refine st224 _ ?_
                      show Steps p.tables e below (T224.setTop (mkF m 431 #[.val (.int p1), .val (.ref a2)] [(.ref b200), (.ref b198), (.ref b198)])) _
                      refine XS.dup X224.here hx rfl (hb hby d1_431) rfl rfl ?_
                      show Steps p.tables e below (T224.setTop (mkF m 432 #[.val (.int p1), .val (.ref a2)] [(.ref b200), (.ref b200), (.ref b198), (.ref b198)])) _
                      refine XS.bipush X224.here hx rfl (hb hby d1_432) ?_
                      show Steps p.tables e below (T224.setTop (mkF m 434 #[.val (.int p1), .val (.ref a2)] [(.int (8 : Int32)), (.ref b200), (.ref b200), (.ref b198), (.ref b198)])) _
                      refine XS.aloadN X224.here hx rfl (hb hby d1_434) rfl rfl ?_
                      show Steps p.tables e below (T224.setTop (mkF m 435 #[.val (.int p1), .val (.ref a2)] [(.ref a2), (.int (8 : Int32)), (.ref b200), (.ref b200), (.ref b198), (.ref b198)])) _
                      refine XS.bipush X224.here hx rfl (hb hby d1_435) ?_
                      show Steps p.tables e below (T224.setTop (mkF m 437 #[.val (.int p1), .val (.ref a2)] [(.int (8 : Int32)), (.ref a2), (.int (8 : Int32)), (.ref b200), (.ref b200), (.ref b198), (.ref b198)])) _
                      refine X224.caload hx (j := (8 : Int32)) (v := (.int c8)) (by rw [e224]; exact Ar226.1) (State.isArrayOf_alike hZ.alike Ar226.2.1) Ar226.2.2 (inb_of S226 ⟨by decide, by decide⟩) (show cl226.slots[((8 : Int32)).toNatClampNeg]? = some (.int c8) from H226 8 (by rw [S226]; decide)) (g := (mkF m 437 #[.val (.int p1), .val (.ref a2)] [(.int (8 : Int32)), (.ref a2), (.int (8 : Int32)), (.ref b200), (.ref b200), (.ref b198), (.ref b198)])) rfl rfl (hb hby d1_437) _ ?_
                      show Steps p.tables e below (T224.setTop (mkF m 438 #[.val (.int p1), .val (.ref a2)] [(.int c8), (.int (8 : Int32)), (.ref b200), (.ref b200), (.ref b198), (.ref b198)])) _
                      refine st227 _ ?_
                      show Steps p.tables e below (T227.setTop (mkF m 439 #[.val (.int p1), .val (.ref a2)] [(.ref b200), (.ref b198), (.ref b198)])) _
                      refine st232.trans ?_
                      show Steps p.tables e below (T232.setTop (mkF m 442 #[.val (.int p1), .val (.ref a2)] [(.ref b198)])) _
                      jvm_step X232.here [X232.here.top, hx, (hb hby d1_442), X232.method', Bd.returns, Value.isRef, FieldType.isReference]
                      first | (intro acts; rw [hr _ acts rfl rfl rfl]) | rw [hr _ _ rfl rfl rfl]
                      exact Steps.refl _
                    · show Q_rmT Z p1 a2 kd zc c0 c1 c2 c3 c4 c5 c6 c7 c8 h0 n0 _ T232.heap T232.vm _
                      exact ⟨b198, t232, k232_, [c0, c1, c2, c3, c4, c5, c6, c7, c8], (9 : Int32), _, rfl, N232, K232, A232q, F232q, C232q, B232q, StrChars.Road.codOf (cs := [c0, c1, c2, c3, c4, c5, c6, c7, c8]) (n := 9) rfl (fun c hc => (hbb c hc).2), own_up hbb, (by show 9 ≤ 4000; decide), own_ib (X232.warmed.interned_eq.trans hin0)⟩
theorem d9_0 : decode prog_25_method_1_code 0 = .ok (.getstatic 10, 3) := by decide +kernel
theorem d9_3 : decode prog_25_method_1_code 3 = .ok (.invokevirtual 14, 3) := by decide +kernel
theorem d9_6 : decode prog_25_method_1_code 6 = .ok (.checkcast 15, 3) := by decide +kernel
theorem d9_9 : decode prog_25_method_1_code 9 = .ok (.areturn, 1) := by decide +kernel
theorem pn_rmV : plainName "com/example/payspread/payspread/io/PaymentsFile$Format" = true := by first | (simp [plainName, overriddenIn]; done) | decide +kernel
theorem ef_rmV (m : MethodId)  : entryFrame m #[] 0 = mkF m 0 #[] [] := by first | (simp [entryFrame, mkF, argsToLocals, Value.category]; done) | rfl
def Q_rmV (Z : State) (wV : Addr) (kV : ClassId) (w_CSV : Addr) (w_CAMT_054 : Addr) (h0 : Heap) (n0 : Nat) (v : Option Value) (h : Heap) (L : List Loc) : Prop := ∃ b : Addr, v = some (.ref b) ∧ Fr n0 L ∧ Ext h0 h ∧ Arv Z h b kV (.object "com/example/payspread/payspread/io/PaymentsFile$Format") (2 : Int32) [.ref w_CSV, .ref w_CAMT_054] .null
set_option maxRecDepth 65536 in
set_option maxHeartbeats 40000000 in
theorem rmV (l : Launch) (Z : State) (a0 : Array Value) (hw : ∀ d ∈ tables_1, d.before a0 Z = true) (ws : List Jvm.Cond) (wV : Addr) (kV : ClassId) (w_CSV : Addr) (w_CAMT_054 : Addr) (h0 : Heap) (n0 : Nat) (Z0 : n0 ≤ h0.size) (S_V : Sta Z h0 "com/example/payspread/payspread/io/PaymentsFile$Format" "$VALUES" "[Lcom/example/payspread/payspread/io/PaymentsFile$Format;" (.ref wV)) (V_V : Arv Z h0 wV kV (.object "com/example/payspread/payspread/io/PaymentsFile$Format") (2 : Int32) [.ref w_CSV, .ref w_CAMT_054] .null) (E_V : Exa Z h0 wV "[Lcom/example/payspread/payspread/io/PaymentsFile$Format;") :
    MetFree l (⟨"com/example/payspread/payspread/io/PaymentsFile$Format", "values", "()[Lcom/example/payspread/payspread/io/PaymentsFile$Format;"⟩ : MethodName) (head1 (Jvm.Cond.code (⟨"com/example/payspread/payspread/io/PaymentsFile$Format", "values", "()[Lcom/example/payspread/payspread/io/PaymentsFile$Format;"⟩ : MethodName) prog_25_method_1_code 0 (some (.array (.object "com/example/payspread/payspread/io/PaymentsFile$Format"))) :: ws) ({ frames := 1, cells := 1, slots := 2, locals := 14 } : Room)) (fun a U => a = #[] ∧ Z.Warmed39 U.vm ∧ U.heap = h0) (fun _ _ _ _ _ => True) (fun _ U o U' => ∃ v L, o = .returned v ∧ Q_rmV Z wV kV w_CSV w_CAMT_054 h0 n0 v U'.heap L ∧ FrameEnd U o U' L ({ frames := 1, cells := 1, slots := 2, locals := 14 } : Room).cells ({ frames := 1, cells := 1, slots := 2, locals := 14 } : Room).slots) := by
  refine MetFree.of_bodySF (plainFor_of_name pn_rmV) hisR ?_
  intro p e s m args below meth c s₁ Bd hml0 hP hK
  obtain ⟨rfl, hZ, hh⟩ := hP
  have hx := Bd.exec
  have hby := Bd.bytes
  have hml : c.maxLocals = 0 := hml0
  have hown : s.vm.findClass "com/example/payspread/payspread/io/PaymentsFile$Format" = some m.cls := findClass_of_methodNamed Bd.named
  have hnm := (name_of_methodNamed Bd.named Bd.method).1
  have X0 : Stand p l e ({ frames := 1, cells := 1, slots := 2, locals := 14 } : Room) s m #[] below meth c s₁ [] 0 0 := Stand.of_body Bd
  have e0 : s₁.heap = h0 := by rw [← hh, Bd.state]; rfl
  have N0 := Fr.nil n0
  have pre0 : ∀ t, Steps p.tables e below (s₁.setTop (mkF m 0 #[] [])) t → Steps p.tables e below (s₁.setTop (entryFrame m #[] 0)) t := fun t k => castTop (ef_rmV m ) k
  obtain ⟨T1, X1, e1, st1⟩ := getS2 X0 hx hZ hown (host := "") (Or.inl (hw _ (List.mem_of_getElem? (i := 43) rfl))) Via.refl e0 S_V (g := (mkF m 0 #[] [])) rfl (hb hby d9_0)
  obtain ⟨T2, h2, X2, e2, E2, V2, A2, st2⟩ := cloneH X1 hx hZ hown (hw _ (List.mem_of_getElem? (i := 45) rfl)) (hw _ (List.mem_of_getElem? (i := 46) rfl)) (hw _ (List.mem_of_getElem? (i := 50) rfl)) (hw _ (List.mem_of_getElem? (i := 48) rfl)) (hw _ (List.mem_of_getElem? (i := 49) rfl)) (hw _ (List.mem_of_getElem? (i := 51) rfl)) e1 (Arv.arh V_V) E_V (g := (mkF m 3 #[] [(.ref wV)])) rfl (by rw [hml]; rfl) rfl (hb hby d9_3) (by decide) (W := 0) (cap := 2) (by show 2 * 0 + _ ≤ _; exact Nat.le_of_eq rfl) (by decide) (by decide) (by decide) (by decide)
  obtain ⟨b2, g2⟩ : ∃ z, z = h0.size := ⟨_, rfl⟩
  rw [← g2] at V2 A2 st2
  obtain ⟨T3, X3, e3, st3⟩ := castY X2 hx hZ hown (hw _ (List.mem_of_getElem? (i := 55) rfl)) e2 (Ins.self A2) (g := (mkF m 6 #[] [(.ref b2)])) rfl rfl (hb hby d9_6)
  obtain ⟨fs, hr, hrun, hended, hW, hsame⟩ := X3.leave (v := some (.ref b2)) (fun h => by rw [Bd.returns] at h; cases h)
  refine ⟨_, _, pre0 _ ?_, hrun, hended, _, _, rfl, ?_, ⟨_, rfl⟩, hW, hsame.mono (by decide) (by decide)⟩
  · show Steps p.tables e below (s₁.setTop (mkF m 0 #[] [])) _
    refine st1 _ ?_
    show Steps p.tables e below (T1.setTop (mkF m 3 #[] [(.ref wV)])) _
    refine st2 _ ?_
    show Steps p.tables e below (T2.setTop (mkF m 6 #[] [(.ref b2)])) _
    refine st3 _ ?_
    show Steps p.tables e below (T3.setTop (mkF m 9 #[] [(.ref b2)])) _
    jvm_step X3.here [X3.here.top, hx, (hb hby d9_9), X3.method', Bd.returns, Value.isRef, FieldType.isReference]
    first | (intro acts; rw [hr _ acts rfl rfl rfl]) | rw [hr _ _ rfl rfl rfl]
    exact Steps.refl _
  · show Q_rmV Z wV kV w_CSV w_CAMT_054 h0 n0 _ T3.heap _
    rw [e3]
    exact ⟨b2, rfl, N0, E2, V2⟩
theorem d12_0 : decode prog_25_method_4_code 0 = .ok (.aload_n 0, 1) := by decide +kernel
theorem d12_1 : decode prog_25_method_4_code 1 = .ok (.getfield 29, 3) := by decide +kernel
theorem d12_4 : decode prog_25_method_4_code 4 = .ok (.areturn, 1) := by decide +kernel
theorem pn_rmG : plainName "com/example/payspread/payspread/io/PaymentsFile$Format" = true := by first | (simp [plainName, overriddenIn]; done) | decide +kernel
theorem ef_rmG (m : MethodId) (a1 : Addr) : entryFrame m #[(.ref a1)] 1 = mkF m 0 #[.val (.ref a1)] [] := by first | (simp [entryFrame, mkF, argsToLocals, Value.category]; done) | rfl
def Q_rmG (Z : State) (a1 : Addr) (r : Addr) (h0 : Heap) (n0 : Nat) (v : Option Value) (h : Heap) (L : List Loc) : Prop := v = some (.ref r) ∧ Fr n0 L ∧ h = h0
set_option maxRecDepth 65536 in
set_option maxHeartbeats 40000000 in
theorem rmG (l : Launch) (Z : State) (a0 : Array Value) (hw : ∀ d ∈ tables_1, d.before a0 Z = true) (ws : List Jvm.Cond) (a1 : Addr) (r : Addr) (h0 : Heap) (n0 : Nat) (Z0 : n0 ≤ h0.size) (F_r : Fld Z h0 a1 "com/example/payspread/payspread/io/PaymentsFile$Format" "formatName" "Ljava/lang/String;" (.ref r)) :
    MetFree l (⟨"com/example/payspread/payspread/io/PaymentsFile$Format", "formatName", "()Ljava/lang/String;"⟩ : MethodName) (head1 (Jvm.Cond.code (⟨"com/example/payspread/payspread/io/PaymentsFile$Format", "formatName", "()Ljava/lang/String;"⟩ : MethodName) prog_25_method_4_code 1 (some (.object "java/lang/String")) :: ws) ({ frames := 0, cells := 0, slots := 0, locals := 0 } : Room)) (fun a U => a = #[(.ref a1)] ∧ Z.Warmed39 U.vm ∧ U.heap = h0) (fun _ _ _ _ _ => True) (fun _ U o U' => ∃ v L, o = .returned v ∧ Q_rmG Z a1 r h0 n0 v U'.heap L ∧ FrameEnd U o U' L ({ frames := 0, cells := 0, slots := 0, locals := 0 } : Room).cells ({ frames := 0, cells := 0, slots := 0, locals := 0 } : Room).slots) := by
  refine MetFree.of_bodySF (plainFor_of_name pn_rmG) hisR ?_
  intro p e s m args below meth c s₁ Bd hml0 hP hK
  obtain ⟨rfl, hZ, hh⟩ := hP
  have hx := Bd.exec
  have hby := Bd.bytes
  have hml : c.maxLocals = 1 := hml0
  have hown : s.vm.findClass "com/example/payspread/payspread/io/PaymentsFile$Format" = some m.cls := findClass_of_methodNamed Bd.named
  have hnm := (name_of_methodNamed Bd.named Bd.method).1
  have X0 : Stand p l e ({ frames := 0, cells := 0, slots := 0, locals := 0 } : Room) s m #[(.ref a1)] below meth c s₁ [] 0 0 := Stand.of_body Bd
  have e0 : s₁.heap = h0 := by rw [← hh, Bd.state]; rfl
  have N0 := Fr.nil n0
  have pre0 : ∀ t, Steps p.tables e below (s₁.setTop (mkF m 0 #[.val (.ref a1)] [])) t → Steps p.tables e below (s₁.setTop (entryFrame m #[(.ref a1)] 1)) t := fun t k => castTop (ef_rmG m a1) k
  obtain ⟨T1, X1, e1, st1⟩ := getF X0 hx hZ hown (host := "") (Or.inl (hw _ (List.mem_of_getElem? (i := 57) rfl))) Via.refl e0 F_r (g := (mkF m 1 #[.val (.ref a1)] [(.ref a1)])) rfl rfl (hb hby d12_1)
  obtain ⟨fs, hr, hrun, hended, hW, hsame⟩ := X1.leave (v := some (.ref r)) (fun h => by rw [Bd.returns] at h; cases h)
  refine ⟨_, _, pre0 _ ?_, hrun, hended, _, _, rfl, ?_, ⟨_, rfl⟩, hW, hsame.mono (by decide) (by decide)⟩
  · show Steps p.tables e below (s₁.setTop (mkF m 0 #[.val (.ref a1)] [])) _
    refine XS.aloadN X0.here hx rfl (hb hby d12_0) rfl rfl ?_
    show Steps p.tables e below (s₁.setTop (mkF m 1 #[.val (.ref a1)] [(.ref a1)])) _
    refine st1 _ ?_
    show Steps p.tables e below (T1.setTop (mkF m 4 #[.val (.ref a1)] [(.ref r)])) _
    jvm_step X1.here [X1.here.top, hx, (hb hby d12_4), X1.method', Bd.returns, Value.isRef, FieldType.isReference]
    first | (intro acts; rw [hr _ acts rfl rfl rfl]) | rw [hr _ _ rfl rfl rfl]
    exact Steps.refl _
  · show Q_rmG Z a1 r h0 n0 _ T1.heap _
    rw [e1]
    exact ⟨rfl, N0, rfl⟩
theorem d10_0 : decode jdk_42_method_66_code 0 = .ok (.aload_n 0, 1) := by decide +kernel
theorem d10_1 : decode jdk_42_method_66_code 1 = .ok (.aload_n 1, 1) := by decide +kernel
theorem d10_2 : decode jdk_42_method_66_code 2 = .ok (.if_acmp .ne 5, 3) := by decide +kernel
theorem d10_7 : decode jdk_42_method_66_code 7 = .ok (.aload_n 1, 1) := by decide +kernel
theorem d10_8 : decode jdk_42_method_66_code 8 = .ok (.instanceof 10, 3) := by decide +kernel
theorem d10_11 : decode jdk_42_method_66_code 11 = .ok (.ifCond .eq 43, 3) := by decide +kernel
theorem d10_54 : decode jdk_42_method_66_code 54 = .ok (.iconst 0, 1) := by decide +kernel
theorem d10_55 : decode jdk_42_method_66_code 55 = .ok (.ireturn, 1) := by decide +kernel
theorem pn_rmQ : plainName "java/lang/String" = true := by first | (simp [plainName, overriddenIn]; done) | decide +kernel
theorem ef_rmQ (m : MethodId) (a1 : Addr) : entryFrame m #[(.ref a1), .null] 3 = mkF m 0 #[.val (.ref a1), .val .null, .unset] [] := by first | (simp [entryFrame, mkF, argsToLocals, Value.category]; done) | rfl
def Q_rmQ (Z : State) (a1 : Addr) (h0 : Heap) (n0 : Nat) (v : Option Value) (h : Heap) (L : List Loc) : Prop := v = some (.int (0 : Int32)) ∧ Fr n0 L ∧ h = h0
set_option maxRecDepth 65536 in
set_option maxHeartbeats 40000000 in
theorem rmQ (l : Launch) (Z : State) (a0 : Array Value) (hw : ∀ d ∈ tables_1, d.before a0 Z = true) (ws : List Jvm.Cond) (a1 : Addr) (h0 : Heap) (n0 : Nat) (Z0 : n0 ≤ h0.size) :
    MetFree l (⟨"java/lang/String", "equals", "(Ljava/lang/Object;)Z"⟩ : MethodName) (head1 (Jvm.Cond.code (⟨"java/lang/String", "equals", "(Ljava/lang/Object;)Z"⟩ : MethodName) jdk_42_method_66_code 3 (some .boolean) :: ws) ({ frames := 0, cells := 0, slots := 0, locals := 0 } : Room)) (fun a U => a = #[(.ref a1), .null] ∧ Z.Warmed39 U.vm ∧ U.heap = h0) (fun _ _ _ _ _ => True) (fun _ U o U' => ∃ v L, o = .returned v ∧ Q_rmQ Z a1 h0 n0 v U'.heap L ∧ FrameEnd U o U' L ({ frames := 0, cells := 0, slots := 0, locals := 0 } : Room).cells ({ frames := 0, cells := 0, slots := 0, locals := 0 } : Room).slots) := by
  refine MetFree.of_bodySF (plainFor_of_name pn_rmQ) hisR ?_
  intro p e s m args below meth c s₁ Bd hml0 hP hK
  obtain ⟨rfl, hZ, hh⟩ := hP
  have hx := Bd.exec
  have hby := Bd.bytes
  have hml : c.maxLocals = 3 := hml0
  have hown : s.vm.findClass "java/lang/String" = some m.cls := findClass_of_methodNamed Bd.named
  have hnm := (name_of_methodNamed Bd.named Bd.method).1
  have X0 : Stand p l e ({ frames := 0, cells := 0, slots := 0, locals := 0 } : Room) s m #[(.ref a1), .null] below meth c s₁ [] 0 0 := Stand.of_body Bd
  have e0 : s₁.heap = h0 := by rw [← hh, Bd.state]; rfl
  have N0 := Fr.nil n0
  have pre0 : ∀ t, Steps p.tables e below (s₁.setTop (mkF m 0 #[.val (.ref a1), .val .null, .unset] [])) t → Steps p.tables e below (s₁.setTop (entryFrame m #[(.ref a1), .null] 3)) t := fun t k => castTop (ef_rmQ m a1) k
  obtain ⟨fs, hr, hrun, hended, hW, hsame⟩ := X0.leave (v := some (.int (0 : Int32))) (fun h => by rw [Bd.returns] at h; cases h)
  refine ⟨_, _, pre0 _ ?_, hrun, hended, _, _, rfl, ?_, ⟨_, rfl⟩, hW, hsame.mono (by decide) (by decide)⟩
  · show Steps p.tables e below (s₁.setTop (mkF m 0 #[.val (.ref a1), .val .null, .unset] [])) _
    refine XS.aloadN X0.here hx rfl (hb hby d10_0) rfl rfl ?_
    show Steps p.tables e below (s₁.setTop (mkF m 1 #[.val (.ref a1), .val .null, .unset] [(.ref a1)])) _
    refine XS.aloadN X0.here hx rfl (hb hby d10_1) rfl rfl ?_
    show Steps p.tables e below (s₁.setTop (mkF m 2 #[.val (.ref a1), .val .null, .unset] [.null, (.ref a1)])) _
    refine Jvm.RoadKit.acmp (g := (mkF m 2 #[.val (.ref a1), .val .null, .unset] [.null, (.ref a1)])) X0 hx rfl rfl rfl (pc0 := 2) (pc' := 7) (same := false) rfl (hb hby d10_2) rfl (decide_eq_false nofun) (by decide) (by decide) ?_
    show Steps p.tables e below (s₁.setTop (mkF m 7 #[.val (.ref a1), .val .null, .unset] [])) _
    refine XS.aloadN X0.here hx rfl (hb hby d10_7) rfl rfl ?_
    show Steps p.tables e below (s₁.setTop (mkF m 8 #[.val (.ref a1), .val .null, .unset] [.null])) _
    refine X0.instanceofNull hx (g := (mkF m 8 #[.val (.ref a1), .val .null, .unset] [.null])) rfl rfl (hb hby d10_8) _ ?_
    show Steps p.tables e below (s₁.setTop (mkF m 11 #[.val (.ref a1), .val .null, .unset] [(.int (0 : Int32))])) _
    refine XS.ifYes X0.here hx rfl (pc0 := 11) (pc' := 54) rfl (hb hby d10_11) rfl ((if0 _ _).trans (teq (rfl : (0 : Int32) = (0 : Int32))).1) (by decide) (by decide) ?_
    show Steps p.tables e below (s₁.setTop (mkF m 54 #[.val (.ref a1), .val .null, .unset] [])) _
    refine XS.iconst X0.here hx rfl (hb hby d10_54) ?_
    show Steps p.tables e below (s₁.setTop (mkF m 55 #[.val (.ref a1), .val .null, .unset] [(.int (0 : Int32))])) _
    exact retN X0 hx (t := .boolean) Bd.returns (by simp) (hb hby d10_55) hr
  · show Q_rmQ Z a1 h0 n0 _ s₁.heap _
    rw [e0]
    exact ⟨rfl, N0, rfl⟩
theorem d8_0 : decode prog_25_method_5_code 0 = .ok (.invokestatic 33, 3) := by decide +kernel
theorem d8_3 : decode prog_25_method_5_code 3 = .ok (.astore_n 1, 1) := by decide +kernel
theorem d8_4 : decode prog_25_method_5_code 4 = .ok (.aload_n 1, 1) := by decide +kernel
theorem d8_5 : decode prog_25_method_5_code 5 = .ok (.arraylength, 1) := by decide +kernel
theorem d8_6 : decode prog_25_method_5_code 6 = .ok (.istore_n 2, 1) := by decide +kernel
theorem d8_7 : decode prog_25_method_5_code 7 = .ok (.iconst 0, 1) := by decide +kernel
theorem d8_8 : decode prog_25_method_5_code 8 = .ok (.istore_n 3, 1) := by decide +kernel
theorem d8_9 : decode prog_25_method_5_code 9 = .ok (.iload_n 3, 1) := by decide +kernel
theorem d8_10 : decode prog_25_method_5_code 10 = .ok (.iload_n 2, 1) := by decide +kernel
theorem d8_11 : decode prog_25_method_5_code 11 = .ok (.if_icmp .ge 29, 3) := by decide +kernel
theorem d8_14 : decode prog_25_method_5_code 14 = .ok (.aload_n 1, 1) := by decide +kernel
theorem d8_15 : decode prog_25_method_5_code 15 = .ok (.iload_n 3, 1) := by decide +kernel
theorem d8_16 : decode prog_25_method_5_code 16 = .ok (.aaload, 1) := by decide +kernel
theorem d8_17 : decode prog_25_method_5_code 17 = .ok (.astore 4, 2) := by decide +kernel
theorem d8_19 : decode prog_25_method_5_code 19 = .ok (.aload 4, 2) := by decide +kernel
theorem d8_21 : decode prog_25_method_5_code 21 = .ok (.getfield 29, 3) := by decide +kernel
theorem d8_24 : decode prog_25_method_5_code 24 = .ok (.aload_n 0, 1) := by decide +kernel
theorem d8_25 : decode prog_25_method_5_code 25 = .ok (.invokevirtual 37, 3) := by decide +kernel
theorem d8_28 : decode prog_25_method_5_code 28 = .ok (.ifCond .eq 6, 3) := by decide +kernel
theorem d8_31 : decode prog_25_method_5_code 31 = .ok (.aload 4, 2) := by decide +kernel
theorem d8_33 : decode prog_25_method_5_code 33 = .ok (.areturn, 1) := by decide +kernel
theorem d8_34 : decode prog_25_method_5_code 34 = .ok (.iinc 3 1, 3) := by decide +kernel
theorem d8_37 : decode prog_25_method_5_code 37 = .ok (.goto (-28), 3) := by decide +kernel
theorem d8_40 : decode prog_25_method_5_code 40 = .ok (.aconst_null, 1) := by decide +kernel
theorem d8_41 : decode prog_25_method_5_code 41 = .ok (.areturn, 1) := by decide +kernel
theorem pn_rmN : plainName "com/example/payspread/payspread/io/PaymentsFile$Format" = true := by first | (simp [plainName, overriddenIn]; done) | decide +kernel
theorem pd_rmN_0 : parseMethodDescriptor "()[Lcom/example/payspread/payspread/io/PaymentsFile$Format;" = some ⟨[], some (.array (.object "com/example/payspread/payspread/io/PaymentsFile$Format"))⟩ := by decide +kernel
theorem pd_rmN_1 : parseMethodDescriptor "(Ljava/lang/Object;)Z" = some ⟨[(.object "java/lang/Object")], some .boolean⟩ := by decide +kernel
theorem ef_rmN (m : MethodId) (xu : Addr) : entryFrame m #[(.ref xu)] 5 = mkF m 0 #[.val (.ref xu), .unset, .unset, .unset, .unset] [] := by first | (simp [entryFrame, mkF, argsToLocals, Value.category]; done) | rfl
def Q_rmN (Z : State) (xu : Addr) (xt : Addr) (xk : ClassId) (ds : List Int32) (N2 : Int32) (vs : List Value) (rv : Value) (wV : Addr) (kV : ClassId) (w_CSV : Addr) (w_CAMT_054 : Addr) (s0u : Addr) (s0t : Addr) (s0k : ClassId) (s1u : Addr) (s1t : Addr) (s1k : ClassId) (zc : Int32) (h0 : Heap) (n0 : Nat) (v : Option Value) (h : Heap) (L : List Loc) : Prop := v = some rv ∧ Fr n0 L ∧ Ext h0 h
set_option maxRecDepth 65536 in
set_option maxHeartbeats 40000000 in
theorem rmN (l : Launch) (Z : State) (a0 : Array Value) (hw : ∀ d ∈ tables_1, d.before a0 Z = true) (ws : List Jvm.Cond) (xu : Addr) (xt : Addr) (xk : ClassId) (ds : List Int32) (N2 : Int32) (vs : List Value) (rv : Value) (wV : Addr) (kV : ClassId) (w_CSV : Addr) (w_CAMT_054 : Addr) (s0u : Addr) (s0t : Addr) (s0k : ClassId) (s1u : Addr) (s1t : Addr) (s1k : ClassId) (zc : Int32) (h0 : Heap) (n0 : Nat) (Z0 : n0 ≤ h0.size) (xE : Exa Z h0 xu "java/lang/String") (xV : Fld Z h0 xu "java/lang/String" "value" "[B" (.ref xt)) (xC : Fld Z h0 xu "java/lang/String" "coder" "B" (.int (0 : Int32))) (xK : Arv Z h0 xt xk .byte N2 vs (.int 0)) (hcod : StrChars.Road.CodA ds (0 : Int32) N2 vs) (hbd : ∀ c ∈ ds, ¬ c < 0 ∧ ¬ (65535 : Int32) < c) (hlen : ds.length ≤ 4000) (hv : (cs0 = ds ∧ rv = .ref w_CSV) ∨ (¬ cs0 = ds ∧ cs1 = ds ∧ rv = .ref w_CAMT_054) ∨ (¬ cs0 = ds ∧ ¬ cs1 = ds ∧ rv = .null)) (S_V : Sta Z h0 "com/example/payspread/payspread/io/PaymentsFile$Format" "$VALUES" "[Lcom/example/payspread/payspread/io/PaymentsFile$Format;" (.ref wV)) (V_V : Arv Z h0 wV kV (.object "com/example/payspread/payspread/io/PaymentsFile$Format") (2 : Int32) [.ref w_CSV, .ref w_CAMT_054] .null) (E_V : Exa Z h0 wV "[Lcom/example/payspread/payspread/io/PaymentsFile$Format;") (s0F : Fld Z h0 w_CSV "com/example/payspread/payspread/io/PaymentsFile$Format" "formatName" "Ljava/lang/String;" (.ref s0u)) (s0E : Exa Z h0 s0u "java/lang/String") (s0V : Fld Z h0 s0u "java/lang/String" "value" "[B" (.ref s0t)) (s0C : Fld Z h0 s0u "java/lang/String" "coder" "B" (.int (0 : Int32))) (s0K : Arv Z h0 s0t s0k .byte (3 : Int32) (cs0.map Value.int) (.int 0)) (s1F : Fld Z h0 w_CAMT_054 "com/example/payspread/payspread/io/PaymentsFile$Format" "formatName" "Ljava/lang/String;" (.ref s1u)) (s1E : Exa Z h0 s1u "java/lang/String") (s1V : Fld Z h0 s1u "java/lang/String" "value" "[B" (.ref s1t)) (s1C : Fld Z h0 s1u "java/lang/String" "coder" "B" (.int (0 : Int32))) (s1K : Arv Z h0 s1t s1k .byte (8 : Int32) (cs1.map Value.int) (.int 0)) (S_C : Sta Z h0 "java/lang/String" "COMPACT_STRINGS" "Z" (.int zc)) (hzc : ¬ zc = 0) :
    MetFree l (⟨"com/example/payspread/payspread/io/PaymentsFile$Format", "named", "(Ljava/lang/String;)Lcom/example/payspread/payspread/io/PaymentsFile$Format;"⟩ : MethodName) (head1 (Jvm.Cond.code (⟨"com/example/payspread/payspread/io/PaymentsFile$Format", "named", "(Ljava/lang/String;)Lcom/example/payspread/payspread/io/PaymentsFile$Format;"⟩ : MethodName) prog_25_method_5_code 5 (some (.object "com/example/payspread/payspread/io/PaymentsFile$Format")) :: ws) ({ frames := 2, cells := 1, slots := 2, locals := 28 } : Room)) (fun a U => a = #[(.ref xu)] ∧ Z.Warmed39 U.vm ∧ U.heap = h0) (fun _ _ _ _ _ => True) (fun _ U o U' => ∃ v L, o = .returned v ∧ Q_rmN Z xu xt xk ds N2 vs rv wV kV w_CSV w_CAMT_054 s0u s0t s0k s1u s1t s1k zc h0 n0 v U'.heap L ∧ FrameEnd U o U' L ({ frames := 2, cells := 1, slots := 2, locals := 28 } : Room).cells ({ frames := 2, cells := 1, slots := 2, locals := 28 } : Room).slots) := by
  refine MetFree.of_bodySF (plainFor_of_name pn_rmN) hisR ?_
  intro p e s m args below meth c s₁ Bd hml0 hP hK
  obtain ⟨rfl, hZ, hh⟩ := hP
  have hx := Bd.exec
  have hby := Bd.bytes
  have hml : c.maxLocals = 5 := hml0
  have hown : s.vm.findClass "com/example/payspread/payspread/io/PaymentsFile$Format" = some m.cls := findClass_of_methodNamed Bd.named
  have hnm := (name_of_methodNamed Bd.named Bd.method).1
  have X0 : Stand p l e ({ frames := 2, cells := 1, slots := 2, locals := 28 } : Room) s m #[(.ref xu)] below meth c s₁ [] 0 0 := Stand.of_body Bd
  have e0 : s₁.heap = h0 := by rw [← hh, Bd.state]; rfl
  have N0 := Fr.nil n0
  have pre0 : ∀ t, Steps p.tables e below (s₁.setTop (mkF m 0 #[.val (.ref xu), .unset, .unset, .unset, .unset] [])) t → Steps p.tables e below (s₁.setTop (entryFrame m #[(.ref xu)] 5)) t := fun t k => castTop (ef_rmN m xu) k
  have hwsE : ∀ d ∈ StrChars.Road.wordsEq, d.before a0 Z = true := fun d hd => hw d ((by decide +kernel : ∀ d ∈ StrChars.Road.wordsEq, d ∈ tables_1) d hd)
  obtain ⟨_, _, ⟨T1, L1, k1, n1⟩, -, X1, ⟨Lc1, hQ1, l1, y1, z1⟩, st1⟩ := Jvm.LawKit.callS X0 hx (y := (⟨"com/example/payspread/payspread/io/PaymentsFile$Format", "values", "()[Lcom/example/payspread/payspread/io/PaymentsFile$Format;"⟩ : MethodName)) hown (mvT hZ (hw _ (List.mem_of_getElem? (i := 40) rfl))) (mvT hZ (hw _ (List.mem_of_getElem? (i := 41) rfl))) (mvT hZ (hw _ (List.mem_of_getElem? (i := 38) rfl))) (mvT hZ (hw _ (List.mem_of_getElem? (i := 42) rfl))) (by decide) (backOf (W := 0) (rmV l Z a0 hw [] wV kV w_CSV w_CAMT_054 h0 n0 Z0 S_V V_V E_V) hZ (hw _ (List.mem_of_getElem? (i := 42) rfl)) (hw _ (List.mem_of_getElem? (i := 38) rfl)) (by decide) (by decide)) (g := (mkF m 0 #[.val (.ref xu), .unset, .unset, .unset, .unset] [])) rfl (by rw [hml]; rfl) (argsL := []) (rest := []) (lenOf pd_rmN_0 rfl) rfl (by show 2 * 0 + _ ≤ _; exact Nat.le_of_eq rfl) (hb hby d8_0) (fun _ _ => ⟨rfl, e0, (by decide : 0 + 1 ≤ _), (by decide : 0 + 2 ≤ _)⟩)
  dsimp only [Pt.U, Pt.locs, Pt.cells, Pt.slots] at X1 l1 y1 z1 st1 hQ1
  subst l1 y1 z1
  obtain ⟨b1, rfl, N1q, E1q, V1q⟩ := hQ1
  have N1 := Fr.app N0 N1q
  have K1 : Keep h0 T1.heap [] := ((Keep.refl h0 [])).ext E1q
  obtain ⟨cl2, Ar2, q2, S2, N2_, H2, G2⟩ := id V1q
  obtain ⟨cl3, Ar3, q3, S3, N3_, H3, G3⟩ := id V1q
  obtain ⟨T4, X4, e4, st4⟩ := getF X1 hx hZ hown (host := "") (Or.inl (hw _ (List.mem_of_getElem? (i := 57) rfl))) Via.refl rfl (Fld.ext E1q s0F) (g := (mkF m 21 #[.val (.ref xu), .val (.ref b1), .val (.int (2 : Int32)), .val (.int (0 : Int32)), .val (.ref w_CSV)] [(.ref w_CSV)])) rfl rfl (hb hby d8_21)
  have pre5 : ∀ t, Steps p.tables e below (T4.setTop (mkF m 25 #[.val (.ref xu), .val (.ref b1), .val (.int (2 : Int32)), .val (.int (0 : Int32)), .val (.ref w_CSV)] [(.ref xu), (.ref s0u)])) t → Steps p.tables e below (s₁.setTop (entryFrame m #[(.ref xu)] 5)) t := fun t k => pre0 t (by
      show Steps p.tables e below (s₁.setTop (mkF m 0 #[.val (.ref xu), .unset, .unset, .unset, .unset] [])) _
      refine st1 _ ?_
      show Steps p.tables e below (T1.setTop (mkF m 3 #[.val (.ref xu), .unset, .unset, .unset, .unset] [(.ref b1)])) _
      refine XS.astoreN X1.here hx rfl (hb hby d8_3) rfl rfl (l' := #[.val (.ref xu), .val (.ref b1), .unset, .unset, .unset]) rfl ?_
      show Steps p.tables e below (T1.setTop (mkF m 4 #[.val (.ref xu), .val (.ref b1), .unset, .unset, .unset] [])) _
      refine XS.aloadN X1.here hx rfl (hb hby d8_4) rfl rfl ?_
      show Steps p.tables e below (T1.setTop (mkF m 5 #[.val (.ref xu), .val (.ref b1), .unset, .unset, .unset] [(.ref b1)])) _
      refine X1.arraylength hx (Ar2.1) (State.isArrayOf_alike hZ.alike Ar2.2.1) (g := (mkF m 5 #[.val (.ref xu), .val (.ref b1), .unset, .unset, .unset] [(.ref b1)])) rfl rfl (hb hby d8_5) _ ?_
      rw [len_of S2 N2_]
      show Steps p.tables e below (T1.setTop (mkF m 6 #[.val (.ref xu), .val (.ref b1), .unset, .unset, .unset] [(.int (2 : Int32))])) _
      refine XS.istoreN X1.here hx rfl (hb hby d8_6) rfl (l' := #[.val (.ref xu), .val (.ref b1), .val (.int (2 : Int32)), .unset, .unset]) rfl ?_
      show Steps p.tables e below (T1.setTop (mkF m 7 #[.val (.ref xu), .val (.ref b1), .val (.int (2 : Int32)), .unset, .unset] [])) _
      refine XS.iconst X1.here hx rfl (hb hby d8_7) ?_
      show Steps p.tables e below (T1.setTop (mkF m 8 #[.val (.ref xu), .val (.ref b1), .val (.int (2 : Int32)), .unset, .unset] [(.int (0 : Int32))])) _
      refine XS.istoreN X1.here hx rfl (hb hby d8_8) rfl (l' := #[.val (.ref xu), .val (.ref b1), .val (.int (2 : Int32)), .val (.int (0 : Int32)), .unset]) rfl ?_
      show Steps p.tables e below (T1.setTop (mkF m 9 #[.val (.ref xu), .val (.ref b1), .val (.int (2 : Int32)), .val (.int (0 : Int32)), .unset] [])) _
      refine XS.iloadN X1.here hx rfl (hb hby d8_9) rfl ?_
      show Steps p.tables e below (T1.setTop (mkF m 10 #[.val (.ref xu), .val (.ref b1), .val (.int (2 : Int32)), .val (.int (0 : Int32)), .unset] [(.int (0 : Int32))])) _
      refine XS.iloadN X1.here hx rfl (hb hby d8_10) rfl ?_
      show Steps p.tables e below (T1.setTop (mkF m 11 #[.val (.ref xu), .val (.ref b1), .val (.int (2 : Int32)), .val (.int (0 : Int32)), .unset] [(.int (2 : Int32)), (.int (0 : Int32))])) _
      refine XS.icmpNo X1.here hx rfl (hb hby d8_11) rfl (tlt (by decide : (0 : Int32) < (2 : Int32))).2.1 ?_
      show Steps p.tables e below (T1.setTop (mkF m 14 #[.val (.ref xu), .val (.ref b1), .val (.int (2 : Int32)), .val (.int (0 : Int32)), .unset] [])) _
      refine XS.aloadN X1.here hx rfl (hb hby d8_14) rfl rfl ?_
      show Steps p.tables e below (T1.setTop (mkF m 15 #[.val (.ref xu), .val (.ref b1), .val (.int (2 : Int32)), .val (.int (0 : Int32)), .unset] [(.ref b1)])) _
      refine XS.iloadN X1.here hx rfl (hb hby d8_15) rfl ?_
      show Steps p.tables e below (T1.setTop (mkF m 16 #[.val (.ref xu), .val (.ref b1), .val (.int (2 : Int32)), .val (.int (0 : Int32)), .unset] [(.int (0 : Int32)), (.ref b1)])) _
      refine X1.aaload hx (j := (0 : Int32)) (v := (.ref w_CSV)) (Ar3.1) (State.isArrayOf_alike hZ.alike Ar3.2.1) rfl Ar3.2.2 (inb_of S3 ⟨by decide, by decide⟩) (show cl3.slots[((0 : Int32)).toNatClampNeg]? = some (.ref w_CSV) from H3 0 (by rw [S3]; decide)) (g := (mkF m 16 #[.val (.ref xu), .val (.ref b1), .val (.int (2 : Int32)), .val (.int (0 : Int32)), .unset] [(.int (0 : Int32)), (.ref b1)])) rfl rfl (hb hby d8_16) _ ?_
      show Steps p.tables e below (T1.setTop (mkF m 17 #[.val (.ref xu), .val (.ref b1), .val (.int (2 : Int32)), .val (.int (0 : Int32)), .unset] [(.ref w_CSV)])) _
      refine XS.astore X1.here hx rfl (hb hby d8_17) rfl rfl (l' := #[.val (.ref xu), .val (.ref b1), .val (.int (2 : Int32)), .val (.int (0 : Int32)), .val (.ref w_CSV)]) rfl ?_
      show Steps p.tables e below (T1.setTop (mkF m 19 #[.val (.ref xu), .val (.ref b1), .val (.int (2 : Int32)), .val (.int (0 : Int32)), .val (.ref w_CSV)] [])) _
      refine XS.aload X1.here hx rfl (hb hby d8_19) rfl rfl ?_
      show Steps p.tables e below (T1.setTop (mkF m 21 #[.val (.ref xu), .val (.ref b1), .val (.int (2 : Int32)), .val (.int (0 : Int32)), .val (.ref w_CSV)] [(.ref w_CSV)])) _
      refine st4 _ ?_
      show Steps p.tables e below (T4.setTop (mkF m 24 #[.val (.ref xu), .val (.ref b1), .val (.int (2 : Int32)), .val (.int (0 : Int32)), .val (.ref w_CSV)] [(.ref s0u)])) _
      refine XS.aloadN X4.here hx rfl (hb hby d8_24) rfl rfl ?_
      exact k)
  by_cases hc6 : cs0 = ds
  · obtain ⟨cq7, kq7, q7a, q7b, q7c⟩ := isOf hZ e4 (Exa.ext E1q s0E)
    obtain ⟨_, _, ⟨T7, L7, k7, n7⟩, -, X7, ⟨Lc7, hQ7, l7, y7, z7⟩, st7⟩ := X4.virtualBack hx (y := (⟨"java/lang/String", "equals", "(Ljava/lang/Object;)Z"⟩ : MethodName)) (z := (⟨"java/lang/String", "equals", "(Ljava/lang/Object;)Z"⟩ : MethodName)) hown (mvT hZ (hw _ (List.mem_of_getElem? (i := 59) rfl))) (mvT hZ (hw _ (List.mem_of_getElem? (i := 60) rfl))) (notFace_of_selects (args := #[]) (mvT hZ (hw _ (List.mem_of_getElem? (i := 62) rfl)))) (mvT hZ (hw _ (List.mem_of_getElem? (i := 62) rfl))) (mvT hZ (hw _ (List.mem_of_getElem? (i := 61) rfl))) (by decide) (StrChars.Road.eqW (W := 0) hZ hwsE (kI := 4) (hw _ (List.mem_of_getElem? (i := 8) rfl)) (Exa.ext E1q s0E) (Fld.ext E1q s0V) (Fld.ext E1q s0C) (s0K.ext E1q) own_cod0 own_b0 (by decide) (Exa.ext E1q xE) (Fld.ext E1q xV) (Fld.ext E1q xC) (xK.ext E1q) hcod hbd hlen (Sta.ext E1q S_C) hzc (by decide) (by decide)) q7a q7c (g := (mkF m 25 #[.val (.ref xu), .val (.ref b1), .val (.int (2 : Int32)), .val (.int (0 : Int32)), .val (.ref w_CSV)] [(.ref xu), (.ref s0u)])) rfl (by rw [hml]; rfl) (Steps.refl _) (argsL := [(.ref xu)]) (rest := []) (lenOf pd_rmN_1 rfl) rfl (by show 2 * 0 + _ ≤ _; exact Nat.le_of_eq rfl) (hb hby d8_25) (fun _ _ => ⟨rfl, e4, (by decide : 1 + 0 ≤ _), (by decide : 2 + 0 ≤ _)⟩)
    dsimp only [Pt.U, Pt.locs, Pt.cells, Pt.slots] at X7 l7 y7 z7 st7 hQ7
    subst l7 y7 z7
    rcases hQ7 with ⟨⟨hv7, hd7⟩ | ⟨hv7, hd7⟩, hl7, e7⟩
    rotate_left
    · exact absurd hc6 hd7
    subst hv7 hl7
    have N7 := Fr.app N1 (Fr.nil n0)
    obtain ⟨fs, hr, hrun, hended, hW, hsame⟩ := X7.leave (v := some (.ref w_CSV)) (fun h => by rw [Bd.returns] at h; cases h)
    refine ⟨_, _, pre5 _ ?_, hrun, hended, _, _, rfl, ?_, ⟨_, rfl⟩, hW, hsame.mono (by decide) (by decide)⟩
    · show Steps p.tables e below (T4.setTop (mkF m 25 #[.val (.ref xu), .val (.ref b1), .val (.int (2 : Int32)), .val (.int (0 : Int32)), .val (.ref w_CSV)] [(.ref xu), (.ref s0u)])) _
      refine st7.trans ?_
      show Steps p.tables e below (T7.setTop (mkF m 28 #[.val (.ref xu), .val (.ref b1), .val (.int (2 : Int32)), .val (.int (0 : Int32)), .val (.ref w_CSV)] [(.int (1 : Int32))])) _
      refine XS.ifNo X7.here hx rfl (hb hby d8_28) rfl ((if0 _ _).trans (feq (by decide : ¬ ((1 : Int32) = (0 : Int32)))).1) ?_
      show Steps p.tables e below (T7.setTop (mkF m 31 #[.val (.ref xu), .val (.ref b1), .val (.int (2 : Int32)), .val (.int (0 : Int32)), .val (.ref w_CSV)] [])) _
      refine XS.aload X7.here hx rfl (hb hby d8_31) rfl rfl ?_
      show Steps p.tables e below (T7.setTop (mkF m 33 #[.val (.ref xu), .val (.ref b1), .val (.int (2 : Int32)), .val (.int (0 : Int32)), .val (.ref w_CSV)] [(.ref w_CSV)])) _
      jvm_step X7.here [X7.here.top, hx, (hb hby d8_33), X7.method', Bd.returns, Value.isRef, FieldType.isReference]
      first | (intro acts; rw [hr _ acts rfl rfl rfl]) | rw [hr _ _ rfl rfl rfl]
      exact Steps.refl _
    · show Q_rmN Z xu xt xk ds N2 vs rv wV kV w_CSV w_CAMT_054 s0u s0t s0k s1u s1t s1k zc h0 n0 _ T7.heap _
      rw [e7]
      exact ⟨by rcases hv with ⟨q, e⟩ | ⟨q, q', e⟩ | ⟨q, q', e⟩ <;> first | exact congrArg some e.symm | exact absurd q hc6 | exact absurd hc6 q, N7, own_keep_ext K1⟩
  · obtain ⟨cq8, kq8, q8a, q8b, q8c⟩ := isOf hZ e4 (Exa.ext E1q s0E)
    obtain ⟨_, _, ⟨T8, L8, k8, n8⟩, -, X8, ⟨Lc8, hQ8, l8, y8, z8⟩, st8⟩ := X4.virtualBack hx (y := (⟨"java/lang/String", "equals", "(Ljava/lang/Object;)Z"⟩ : MethodName)) (z := (⟨"java/lang/String", "equals", "(Ljava/lang/Object;)Z"⟩ : MethodName)) hown (mvT hZ (hw _ (List.mem_of_getElem? (i := 59) rfl))) (mvT hZ (hw _ (List.mem_of_getElem? (i := 60) rfl))) (notFace_of_selects (args := #[]) (mvT hZ (hw _ (List.mem_of_getElem? (i := 62) rfl)))) (mvT hZ (hw _ (List.mem_of_getElem? (i := 62) rfl))) (mvT hZ (hw _ (List.mem_of_getElem? (i := 61) rfl))) (by decide) (StrChars.Road.eqW (W := 0) hZ hwsE (kI := 4) (hw _ (List.mem_of_getElem? (i := 8) rfl)) (Exa.ext E1q s0E) (Fld.ext E1q s0V) (Fld.ext E1q s0C) (s0K.ext E1q) own_cod0 own_b0 (by decide) (Exa.ext E1q xE) (Fld.ext E1q xV) (Fld.ext E1q xC) (xK.ext E1q) hcod hbd hlen (Sta.ext E1q S_C) hzc (by decide) (by decide)) q8a q8c (g := (mkF m 25 #[.val (.ref xu), .val (.ref b1), .val (.int (2 : Int32)), .val (.int (0 : Int32)), .val (.ref w_CSV)] [(.ref xu), (.ref s0u)])) rfl (by rw [hml]; rfl) (Steps.refl _) (argsL := [(.ref xu)]) (rest := []) (lenOf pd_rmN_1 rfl) rfl (by show 2 * 0 + _ ≤ _; exact Nat.le_of_eq rfl) (hb hby d8_25) (fun _ _ => ⟨rfl, e4, (by decide : 1 + 0 ≤ _), (by decide : 2 + 0 ≤ _)⟩)
    dsimp only [Pt.U, Pt.locs, Pt.cells, Pt.slots] at X8 l8 y8 z8 st8 hQ8
    subst l8 y8 z8
    rcases hQ8 with ⟨⟨hv8, hd8⟩ | ⟨hv8, hd8⟩, hl8, e8⟩
    · exact absurd hd8 hc6
    subst hv8 hl8
    have N8 := Fr.app N1 (Fr.nil n0)
    obtain ⟨cl9, Ar9, q9, S9, N9_, H9, G9⟩ := id V1q
    obtain ⟨T10, X10, e10, st10⟩ := getF X8 hx hZ hown (host := "") (Or.inl (hw _ (List.mem_of_getElem? (i := 57) rfl))) Via.refl e8 (Fld.ext E1q s1F) (g := (mkF m 21 #[.val (.ref xu), .val (.ref b1), .val (.int (2 : Int32)), .val (.int (1 : Int32)), .val (.ref w_CAMT_054)] [(.ref w_CAMT_054)])) rfl rfl (hb hby d8_21)
    have pre11 : ∀ t, Steps p.tables e below (T10.setTop (mkF m 25 #[.val (.ref xu), .val (.ref b1), .val (.int (2 : Int32)), .val (.int (1 : Int32)), .val (.ref w_CAMT_054)] [(.ref xu), (.ref s1u)])) t → Steps p.tables e below (s₁.setTop (entryFrame m #[(.ref xu)] 5)) t := fun t k => pre5 t (by
        show Steps p.tables e below (T4.setTop (mkF m 25 #[.val (.ref xu), .val (.ref b1), .val (.int (2 : Int32)), .val (.int (0 : Int32)), .val (.ref w_CSV)] [(.ref xu), (.ref s0u)])) _
        refine st8.trans ?_
        show Steps p.tables e below (T8.setTop (mkF m 28 #[.val (.ref xu), .val (.ref b1), .val (.int (2 : Int32)), .val (.int (0 : Int32)), .val (.ref w_CSV)] [(.int (0 : Int32))])) _
        refine XS.ifYes X8.here hx rfl (pc0 := 28) (pc' := 34) rfl (hb hby d8_28) rfl ((if0 _ _).trans (teq (rfl : (0 : Int32) = (0 : Int32))).1) (by decide) (by decide) ?_
        show Steps p.tables e below (T8.setTop (mkF m 34 #[.val (.ref xu), .val (.ref b1), .val (.int (2 : Int32)), .val (.int (0 : Int32)), .val (.ref w_CSV)] [])) _
        refine XS.iinc X8.here hx rfl (hb hby d8_34) rfl (l' := #[.val (.ref xu), .val (.ref b1), .val (.int (2 : Int32)), .val (.int (1 : Int32)), .val (.ref w_CSV)]) rfl ?_
        show Steps p.tables e below (T8.setTop (mkF m 37 #[.val (.ref xu), .val (.ref b1), .val (.int (2 : Int32)), .val (.int (1 : Int32)), .val (.ref w_CSV)] [])) _
        refine XS.goto X8.here hx rfl (pc0 := 37) (pc' := 9) rfl (hb hby d8_37) (by decide) (by decide) ?_
        show Steps p.tables e below (T8.setTop (mkF m 9 #[.val (.ref xu), .val (.ref b1), .val (.int (2 : Int32)), .val (.int (1 : Int32)), .val (.ref w_CSV)] [])) _
        refine XS.iloadN X8.here hx rfl (hb hby d8_9) rfl ?_
        show Steps p.tables e below (T8.setTop (mkF m 10 #[.val (.ref xu), .val (.ref b1), .val (.int (2 : Int32)), .val (.int (1 : Int32)), .val (.ref w_CSV)] [(.int (1 : Int32))])) _
        refine XS.iloadN X8.here hx rfl (hb hby d8_10) rfl ?_
        show Steps p.tables e below (T8.setTop (mkF m 11 #[.val (.ref xu), .val (.ref b1), .val (.int (2 : Int32)), .val (.int (1 : Int32)), .val (.ref w_CSV)] [(.int (2 : Int32)), (.int (1 : Int32))])) _
        refine XS.icmpNo X8.here hx rfl (hb hby d8_11) rfl (tlt (by decide : (1 : Int32) < (2 : Int32))).2.1 ?_
        show Steps p.tables e below (T8.setTop (mkF m 14 #[.val (.ref xu), .val (.ref b1), .val (.int (2 : Int32)), .val (.int (1 : Int32)), .val (.ref w_CSV)] [])) _
        refine XS.aloadN X8.here hx rfl (hb hby d8_14) rfl rfl ?_
        show Steps p.tables e below (T8.setTop (mkF m 15 #[.val (.ref xu), .val (.ref b1), .val (.int (2 : Int32)), .val (.int (1 : Int32)), .val (.ref w_CSV)] [(.ref b1)])) _
        refine XS.iloadN X8.here hx rfl (hb hby d8_15) rfl ?_
        show Steps p.tables e below (T8.setTop (mkF m 16 #[.val (.ref xu), .val (.ref b1), .val (.int (2 : Int32)), .val (.int (1 : Int32)), .val (.ref w_CSV)] [(.int (1 : Int32)), (.ref b1)])) _
        refine X8.aaload hx (j := (1 : Int32)) (v := (.ref w_CAMT_054)) (by rw [e8]; exact Ar9.1) (State.isArrayOf_alike hZ.alike Ar9.2.1) rfl Ar9.2.2 (inb_of S9 ⟨by decide, by decide⟩) (show cl9.slots[((1 : Int32)).toNatClampNeg]? = some (.ref w_CAMT_054) from H9 1 (by rw [S9]; decide)) (g := (mkF m 16 #[.val (.ref xu), .val (.ref b1), .val (.int (2 : Int32)), .val (.int (1 : Int32)), .val (.ref w_CSV)] [(.int (1 : Int32)), (.ref b1)])) rfl rfl (hb hby d8_16) _ ?_
        show Steps p.tables e below (T8.setTop (mkF m 17 #[.val (.ref xu), .val (.ref b1), .val (.int (2 : Int32)), .val (.int (1 : Int32)), .val (.ref w_CSV)] [(.ref w_CAMT_054)])) _
        refine XS.astore X8.here hx rfl (hb hby d8_17) rfl rfl (l' := #[.val (.ref xu), .val (.ref b1), .val (.int (2 : Int32)), .val (.int (1 : Int32)), .val (.ref w_CAMT_054)]) rfl ?_
        show Steps p.tables e below (T8.setTop (mkF m 19 #[.val (.ref xu), .val (.ref b1), .val (.int (2 : Int32)), .val (.int (1 : Int32)), .val (.ref w_CAMT_054)] [])) _
        refine XS.aload X8.here hx rfl (hb hby d8_19) rfl rfl ?_
        show Steps p.tables e below (T8.setTop (mkF m 21 #[.val (.ref xu), .val (.ref b1), .val (.int (2 : Int32)), .val (.int (1 : Int32)), .val (.ref w_CAMT_054)] [(.ref w_CAMT_054)])) _
        refine st10 _ ?_
        show Steps p.tables e below (T10.setTop (mkF m 24 #[.val (.ref xu), .val (.ref b1), .val (.int (2 : Int32)), .val (.int (1 : Int32)), .val (.ref w_CAMT_054)] [(.ref s1u)])) _
        refine XS.aloadN X10.here hx rfl (hb hby d8_24) rfl rfl ?_
        exact k)
    by_cases hc12 : cs1 = ds
    · obtain ⟨cq13, kq13, q13a, q13b, q13c⟩ := isOf hZ e10 (Exa.ext E1q s1E)
      obtain ⟨_, _, ⟨T13, L13, k13, n13⟩, -, X13, ⟨Lc13, hQ13, l13, y13, z13⟩, st13⟩ := X10.virtualBack hx (y := (⟨"java/lang/String", "equals", "(Ljava/lang/Object;)Z"⟩ : MethodName)) (z := (⟨"java/lang/String", "equals", "(Ljava/lang/Object;)Z"⟩ : MethodName)) hown (mvT hZ (hw _ (List.mem_of_getElem? (i := 59) rfl))) (mvT hZ (hw _ (List.mem_of_getElem? (i := 60) rfl))) (notFace_of_selects (args := #[]) (mvT hZ (hw _ (List.mem_of_getElem? (i := 62) rfl)))) (mvT hZ (hw _ (List.mem_of_getElem? (i := 62) rfl))) (mvT hZ (hw _ (List.mem_of_getElem? (i := 61) rfl))) (by decide) (StrChars.Road.eqW (W := 0) hZ hwsE (kI := 4) (hw _ (List.mem_of_getElem? (i := 8) rfl)) (Exa.ext E1q s1E) (Fld.ext E1q s1V) (Fld.ext E1q s1C) (s1K.ext E1q) own_cod1 own_b1 (by decide) (Exa.ext E1q xE) (Fld.ext E1q xV) (Fld.ext E1q xC) (xK.ext E1q) hcod hbd hlen (Sta.ext E1q S_C) hzc (by decide) (by decide)) q13a q13c (g := (mkF m 25 #[.val (.ref xu), .val (.ref b1), .val (.int (2 : Int32)), .val (.int (1 : Int32)), .val (.ref w_CAMT_054)] [(.ref xu), (.ref s1u)])) rfl (by rw [hml]; rfl) (Steps.refl _) (argsL := [(.ref xu)]) (rest := []) (lenOf pd_rmN_1 rfl) rfl (by show 2 * 0 + _ ≤ _; exact Nat.le_of_eq rfl) (hb hby d8_25) (fun _ _ => ⟨rfl, e10, (by decide : 1 + 0 ≤ _), (by decide : 2 + 0 ≤ _)⟩)
      dsimp only [Pt.U, Pt.locs, Pt.cells, Pt.slots] at X13 l13 y13 z13 st13 hQ13
      subst l13 y13 z13
      rcases hQ13 with ⟨⟨hv13, hd13⟩ | ⟨hv13, hd13⟩, hl13, e13⟩
      rotate_left
      · exact absurd hc12 hd13
      subst hv13 hl13
      have N13 := Fr.app N8 (Fr.nil n0)
      obtain ⟨fs, hr, hrun, hended, hW, hsame⟩ := X13.leave (v := some (.ref w_CAMT_054)) (fun h => by rw [Bd.returns] at h; cases h)
      refine ⟨_, _, pre11 _ ?_, hrun, hended, _, _, rfl, ?_, ⟨_, rfl⟩, hW, hsame.mono (by decide) (by decide)⟩
      · show Steps p.tables e below (T10.setTop (mkF m 25 #[.val (.ref xu), .val (.ref b1), .val (.int (2 : Int32)), .val (.int (1 : Int32)), .val (.ref w_CAMT_054)] [(.ref xu), (.ref s1u)])) _
        refine st13.trans ?_
        show Steps p.tables e below (T13.setTop (mkF m 28 #[.val (.ref xu), .val (.ref b1), .val (.int (2 : Int32)), .val (.int (1 : Int32)), .val (.ref w_CAMT_054)] [(.int (1 : Int32))])) _
        refine XS.ifNo X13.here hx rfl (hb hby d8_28) rfl ((if0 _ _).trans (feq (by decide : ¬ ((1 : Int32) = (0 : Int32)))).1) ?_
        show Steps p.tables e below (T13.setTop (mkF m 31 #[.val (.ref xu), .val (.ref b1), .val (.int (2 : Int32)), .val (.int (1 : Int32)), .val (.ref w_CAMT_054)] [])) _
        refine XS.aload X13.here hx rfl (hb hby d8_31) rfl rfl ?_
        show Steps p.tables e below (T13.setTop (mkF m 33 #[.val (.ref xu), .val (.ref b1), .val (.int (2 : Int32)), .val (.int (1 : Int32)), .val (.ref w_CAMT_054)] [(.ref w_CAMT_054)])) _
        jvm_step X13.here [X13.here.top, hx, (hb hby d8_33), X13.method', Bd.returns, Value.isRef, FieldType.isReference]
        first | (intro acts; rw [hr _ acts rfl rfl rfl]) | rw [hr _ _ rfl rfl rfl]
        exact Steps.refl _
      · show Q_rmN Z xu xt xk ds N2 vs rv wV kV w_CSV w_CAMT_054 s0u s0t s0k s1u s1t s1k zc h0 n0 _ T13.heap _
        rw [e13]
        exact ⟨by rcases hv with ⟨q, e⟩ | ⟨q, q', e⟩ | ⟨q, q', e⟩ <;> first | exact congrArg some e.symm | exact absurd q hc6 | exact absurd q' hc12 | exact absurd hc12 q' | exact absurd hc6 q, N13, own_keep_ext K1⟩
    · obtain ⟨cq14, kq14, q14a, q14b, q14c⟩ := isOf hZ e10 (Exa.ext E1q s1E)
      obtain ⟨_, _, ⟨T14, L14, k14, n14⟩, -, X14, ⟨Lc14, hQ14, l14, y14, z14⟩, st14⟩ := X10.virtualBack hx (y := (⟨"java/lang/String", "equals", "(Ljava/lang/Object;)Z"⟩ : MethodName)) (z := (⟨"java/lang/String", "equals", "(Ljava/lang/Object;)Z"⟩ : MethodName)) hown (mvT hZ (hw _ (List.mem_of_getElem? (i := 59) rfl))) (mvT hZ (hw _ (List.mem_of_getElem? (i := 60) rfl))) (notFace_of_selects (args := #[]) (mvT hZ (hw _ (List.mem_of_getElem? (i := 62) rfl)))) (mvT hZ (hw _ (List.mem_of_getElem? (i := 62) rfl))) (mvT hZ (hw _ (List.mem_of_getElem? (i := 61) rfl))) (by decide) (StrChars.Road.eqW (W := 0) hZ hwsE (kI := 4) (hw _ (List.mem_of_getElem? (i := 8) rfl)) (Exa.ext E1q s1E) (Fld.ext E1q s1V) (Fld.ext E1q s1C) (s1K.ext E1q) own_cod1 own_b1 (by decide) (Exa.ext E1q xE) (Fld.ext E1q xV) (Fld.ext E1q xC) (xK.ext E1q) hcod hbd hlen (Sta.ext E1q S_C) hzc (by decide) (by decide)) q14a q14c (g := (mkF m 25 #[.val (.ref xu), .val (.ref b1), .val (.int (2 : Int32)), .val (.int (1 : Int32)), .val (.ref w_CAMT_054)] [(.ref xu), (.ref s1u)])) rfl (by rw [hml]; rfl) (Steps.refl _) (argsL := [(.ref xu)]) (rest := []) (lenOf pd_rmN_1 rfl) rfl (by show 2 * 0 + _ ≤ _; exact Nat.le_of_eq rfl) (hb hby d8_25) (fun _ _ => ⟨rfl, e10, (by decide : 1 + 0 ≤ _), (by decide : 2 + 0 ≤ _)⟩)
      dsimp only [Pt.U, Pt.locs, Pt.cells, Pt.slots] at X14 l14 y14 z14 st14 hQ14
      subst l14 y14 z14
      rcases hQ14 with ⟨⟨hv14, hd14⟩ | ⟨hv14, hd14⟩, hl14, e14⟩
      · exact absurd hd14 hc12
      subst hv14 hl14
      have N14 := Fr.app N8 (Fr.nil n0)
      obtain ⟨fs, hr, hrun, hended, hW, hsame⟩ := X14.leave (v := some .null) (fun h => by rw [Bd.returns] at h; cases h)
      refine ⟨_, _, pre11 _ ?_, hrun, hended, _, _, rfl, ?_, ⟨_, rfl⟩, hW, hsame.mono (by decide) (by decide)⟩
      · show Steps p.tables e below (T10.setTop (mkF m 25 #[.val (.ref xu), .val (.ref b1), .val (.int (2 : Int32)), .val (.int (1 : Int32)), .val (.ref w_CAMT_054)] [(.ref xu), (.ref s1u)])) _
        refine st14.trans ?_
        show Steps p.tables e below (T14.setTop (mkF m 28 #[.val (.ref xu), .val (.ref b1), .val (.int (2 : Int32)), .val (.int (1 : Int32)), .val (.ref w_CAMT_054)] [(.int (0 : Int32))])) _
        refine XS.ifYes X14.here hx rfl (pc0 := 28) (pc' := 34) rfl (hb hby d8_28) rfl ((if0 _ _).trans (teq (rfl : (0 : Int32) = (0 : Int32))).1) (by decide) (by decide) ?_
        show Steps p.tables e below (T14.setTop (mkF m 34 #[.val (.ref xu), .val (.ref b1), .val (.int (2 : Int32)), .val (.int (1 : Int32)), .val (.ref w_CAMT_054)] [])) _
        refine XS.iinc X14.here hx rfl (hb hby d8_34) rfl (l' := #[.val (.ref xu), .val (.ref b1), .val (.int (2 : Int32)), .val (.int (2 : Int32)), .val (.ref w_CAMT_054)]) rfl ?_
        show Steps p.tables e below (T14.setTop (mkF m 37 #[.val (.ref xu), .val (.ref b1), .val (.int (2 : Int32)), .val (.int (2 : Int32)), .val (.ref w_CAMT_054)] [])) _
        refine XS.goto X14.here hx rfl (pc0 := 37) (pc' := 9) rfl (hb hby d8_37) (by decide) (by decide) ?_
        show Steps p.tables e below (T14.setTop (mkF m 9 #[.val (.ref xu), .val (.ref b1), .val (.int (2 : Int32)), .val (.int (2 : Int32)), .val (.ref w_CAMT_054)] [])) _
        refine XS.iloadN X14.here hx rfl (hb hby d8_9) rfl ?_
        show Steps p.tables e below (T14.setTop (mkF m 10 #[.val (.ref xu), .val (.ref b1), .val (.int (2 : Int32)), .val (.int (2 : Int32)), .val (.ref w_CAMT_054)] [(.int (2 : Int32))])) _
        refine XS.iloadN X14.here hx rfl (hb hby d8_10) rfl ?_
        show Steps p.tables e below (T14.setTop (mkF m 11 #[.val (.ref xu), .val (.ref b1), .val (.int (2 : Int32)), .val (.int (2 : Int32)), .val (.ref w_CAMT_054)] [(.int (2 : Int32)), (.int (2 : Int32))])) _
        refine XS.icmpYes X14.here hx rfl (pc0 := 11) (pc' := 40) rfl (hb hby d8_11) rfl (flt (by decide : ¬ ((2 : Int32) < (2 : Int32)))).2.1 (by decide) (by decide) ?_
        show Steps p.tables e below (T14.setTop (mkF m 40 #[.val (.ref xu), .val (.ref b1), .val (.int (2 : Int32)), .val (.int (2 : Int32)), .val (.ref w_CAMT_054)] [])) _
        refine XS.aconstNull X14.here hx rfl (hb hby d8_40) ?_
        show Steps p.tables e below (T14.setTop (mkF m 41 #[.val (.ref xu), .val (.ref b1), .val (.int (2 : Int32)), .val (.int (2 : Int32)), .val (.ref w_CAMT_054)] [.null])) _
        jvm_step X14.here [X14.here.top, hx, (hb hby d8_41), X14.method', Bd.returns, Value.isRef, FieldType.isReference]
        first | (intro acts; rw [hr _ acts rfl rfl rfl]) | rw [hr _ _ rfl rfl rfl]
        exact Steps.refl _
      · show Q_rmN Z xu xt xk ds N2 vs rv wV kV w_CSV w_CAMT_054 s0u s0t s0k s1u s1t s1k zc h0 n0 _ T14.heap _
        rw [e14]
        exact ⟨by rcases hv with ⟨q, e⟩ | ⟨q, q', e⟩ | ⟨q, q', e⟩ <;> first | exact congrArg some e.symm | exact absurd q hc6 | exact absurd q' hc12 | exact absurd hc12 q' | exact absurd hc6 q, N14, own_keep_ext K1⟩
theorem pn_rmN0 : plainName "com/example/payspread/payspread/io/PaymentsFile$Format" = true := by first | (simp [plainName, overriddenIn]; done) | decide +kernel
theorem pd_rmN0_0 : parseMethodDescriptor "()[Lcom/example/payspread/payspread/io/PaymentsFile$Format;" = some ⟨[], some (.array (.object "com/example/payspread/payspread/io/PaymentsFile$Format"))⟩ := by decide +kernel
theorem pd_rmN0_1 : parseMethodDescriptor "(Ljava/lang/Object;)Z" = some ⟨[(.object "java/lang/Object")], some .boolean⟩ := by decide +kernel
theorem ef_rmN0 (m : MethodId)  : entryFrame m #[.null] 5 = mkF m 0 #[.val .null, .unset, .unset, .unset, .unset] [] := by first | (simp [entryFrame, mkF, argsToLocals, Value.category]; done) | rfl
def Q_rmN0 (Z : State) (wV : Addr) (kV : ClassId) (w_CSV : Addr) (w_CAMT_054 : Addr) (s0u : Addr) (s0t : Addr) (s0k : ClassId) (s1u : Addr) (s1t : Addr) (s1k : ClassId) (zc : Int32) (h0 : Heap) (n0 : Nat) (v : Option Value) (h : Heap) (L : List Loc) : Prop := v = some .null ∧ Fr n0 L ∧ Ext h0 h
set_option maxRecDepth 65536 in
set_option maxHeartbeats 40000000 in
theorem rmN0 (l : Launch) (Z : State) (a0 : Array Value) (hw : ∀ d ∈ tables_1, d.before a0 Z = true) (ws : List Jvm.Cond) (wV : Addr) (kV : ClassId) (w_CSV : Addr) (w_CAMT_054 : Addr) (s0u : Addr) (s0t : Addr) (s0k : ClassId) (s1u : Addr) (s1t : Addr) (s1k : ClassId) (zc : Int32) (h0 : Heap) (n0 : Nat) (Z0 : n0 ≤ h0.size) (S_V : Sta Z h0 "com/example/payspread/payspread/io/PaymentsFile$Format" "$VALUES" "[Lcom/example/payspread/payspread/io/PaymentsFile$Format;" (.ref wV)) (V_V : Arv Z h0 wV kV (.object "com/example/payspread/payspread/io/PaymentsFile$Format") (2 : Int32) [.ref w_CSV, .ref w_CAMT_054] .null) (E_V : Exa Z h0 wV "[Lcom/example/payspread/payspread/io/PaymentsFile$Format;") (s0F : Fld Z h0 w_CSV "com/example/payspread/payspread/io/PaymentsFile$Format" "formatName" "Ljava/lang/String;" (.ref s0u)) (s0E : Exa Z h0 s0u "java/lang/String") (s0V : Fld Z h0 s0u "java/lang/String" "value" "[B" (.ref s0t)) (s0C : Fld Z h0 s0u "java/lang/String" "coder" "B" (.int (0 : Int32))) (s0K : Arv Z h0 s0t s0k .byte (3 : Int32) (cs0.map Value.int) (.int 0)) (s1F : Fld Z h0 w_CAMT_054 "com/example/payspread/payspread/io/PaymentsFile$Format" "formatName" "Ljava/lang/String;" (.ref s1u)) (s1E : Exa Z h0 s1u "java/lang/String") (s1V : Fld Z h0 s1u "java/lang/String" "value" "[B" (.ref s1t)) (s1C : Fld Z h0 s1u "java/lang/String" "coder" "B" (.int (0 : Int32))) (s1K : Arv Z h0 s1t s1k .byte (8 : Int32) (cs1.map Value.int) (.int 0)) (S_C : Sta Z h0 "java/lang/String" "COMPACT_STRINGS" "Z" (.int zc)) (hzc : ¬ zc = 0) :
    MetFree l (⟨"com/example/payspread/payspread/io/PaymentsFile$Format", "named", "(Ljava/lang/String;)Lcom/example/payspread/payspread/io/PaymentsFile$Format;"⟩ : MethodName) (head1 (Jvm.Cond.code (⟨"com/example/payspread/payspread/io/PaymentsFile$Format", "named", "(Ljava/lang/String;)Lcom/example/payspread/payspread/io/PaymentsFile$Format;"⟩ : MethodName) prog_25_method_5_code 5 (some (.object "com/example/payspread/payspread/io/PaymentsFile$Format")) :: ws) ({ frames := 2, cells := 1, slots := 2, locals := 28 } : Room)) (fun a U => a = #[.null] ∧ Z.Warmed39 U.vm ∧ U.heap = h0) (fun _ _ _ _ _ => True) (fun _ U o U' => ∃ v L, o = .returned v ∧ Q_rmN0 Z wV kV w_CSV w_CAMT_054 s0u s0t s0k s1u s1t s1k zc h0 n0 v U'.heap L ∧ FrameEnd U o U' L ({ frames := 2, cells := 1, slots := 2, locals := 28 } : Room).cells ({ frames := 2, cells := 1, slots := 2, locals := 28 } : Room).slots) := by
  refine MetFree.of_bodySF (plainFor_of_name pn_rmN0) hisR ?_
  intro p e s m args below meth c s₁ Bd hml0 hP hK
  obtain ⟨rfl, hZ, hh⟩ := hP
  have hx := Bd.exec
  have hby := Bd.bytes
  have hml : c.maxLocals = 5 := hml0
  have hown : s.vm.findClass "com/example/payspread/payspread/io/PaymentsFile$Format" = some m.cls := findClass_of_methodNamed Bd.named
  have hnm := (name_of_methodNamed Bd.named Bd.method).1
  have X0 : Stand p l e ({ frames := 2, cells := 1, slots := 2, locals := 28 } : Room) s m #[.null] below meth c s₁ [] 0 0 := Stand.of_body Bd
  have e0 : s₁.heap = h0 := by rw [← hh, Bd.state]; rfl
  have N0 := Fr.nil n0
  have pre0 : ∀ t, Steps p.tables e below (s₁.setTop (mkF m 0 #[.val .null, .unset, .unset, .unset, .unset] [])) t → Steps p.tables e below (s₁.setTop (entryFrame m #[.null] 5)) t := fun t k => castTop (ef_rmN0 m ) k
  obtain ⟨_, _, ⟨T1, L1, k1, n1⟩, -, X1, ⟨Lc1, hQ1, l1, y1, z1⟩, st1⟩ := Jvm.LawKit.callS X0 hx (y := (⟨"com/example/payspread/payspread/io/PaymentsFile$Format", "values", "()[Lcom/example/payspread/payspread/io/PaymentsFile$Format;"⟩ : MethodName)) hown (mvT hZ (hw _ (List.mem_of_getElem? (i := 40) rfl))) (mvT hZ (hw _ (List.mem_of_getElem? (i := 41) rfl))) (mvT hZ (hw _ (List.mem_of_getElem? (i := 38) rfl))) (mvT hZ (hw _ (List.mem_of_getElem? (i := 42) rfl))) (by decide) (backOf (W := 0) (rmV l Z a0 hw [] wV kV w_CSV w_CAMT_054 h0 n0 Z0 S_V V_V E_V) hZ (hw _ (List.mem_of_getElem? (i := 42) rfl)) (hw _ (List.mem_of_getElem? (i := 38) rfl)) (by decide) (by decide)) (g := (mkF m 0 #[.val .null, .unset, .unset, .unset, .unset] [])) rfl (by rw [hml]; rfl) (argsL := []) (rest := []) (lenOf pd_rmN0_0 rfl) rfl (by show 2 * 0 + _ ≤ _; exact Nat.le_of_eq rfl) (hb hby d8_0) (fun _ _ => ⟨rfl, e0, (by decide : 0 + 1 ≤ _), (by decide : 0 + 2 ≤ _)⟩)
  dsimp only [Pt.U, Pt.locs, Pt.cells, Pt.slots] at X1 l1 y1 z1 st1 hQ1
  subst l1 y1 z1
  obtain ⟨b1, rfl, N1q, E1q, V1q⟩ := hQ1
  have N1 := Fr.app N0 N1q
  have K1 : Keep h0 T1.heap [] := ((Keep.refl h0 [])).ext E1q
  obtain ⟨cl2, Ar2, q2, S2, N2_, H2, G2⟩ := id V1q
  obtain ⟨cl3, Ar3, q3, S3, N3_, H3, G3⟩ := id V1q
  obtain ⟨T4, X4, e4, st4⟩ := getF X1 hx hZ hown (host := "") (Or.inl (hw _ (List.mem_of_getElem? (i := 57) rfl))) Via.refl rfl (Fld.ext E1q s0F) (g := (mkF m 21 #[.val .null, .val (.ref b1), .val (.int (2 : Int32)), .val (.int (0 : Int32)), .val (.ref w_CSV)] [(.ref w_CSV)])) rfl rfl (hb hby d8_21)
  obtain ⟨cq5, kq5, q5a, q5b, q5c⟩ := isOf hZ e4 (Exa.ext E1q s0E)
  obtain ⟨_, _, ⟨T5, L5, k5, n5⟩, -, X5, ⟨Lc5, hQ5, l5, y5, z5⟩, st5⟩ := X4.virtualBack hx (y := (⟨"java/lang/String", "equals", "(Ljava/lang/Object;)Z"⟩ : MethodName)) (z := (⟨"java/lang/String", "equals", "(Ljava/lang/Object;)Z"⟩ : MethodName)) hown (mvT hZ (hw _ (List.mem_of_getElem? (i := 59) rfl))) (mvT hZ (hw _ (List.mem_of_getElem? (i := 60) rfl))) (notFace_of_selects (args := #[]) (mvT hZ (hw _ (List.mem_of_getElem? (i := 62) rfl)))) (mvT hZ (hw _ (List.mem_of_getElem? (i := 62) rfl))) (mvT hZ (hw _ (List.mem_of_getElem? (i := 61) rfl))) (by decide) (backOf (W := 0) (rmQ l Z a0 hw [] s0u T1.heap n0 (Nat.le_trans Z0 K1.1)) hZ (hw _ (List.mem_of_getElem? (i := 63) rfl)) (hw _ (List.mem_of_getElem? (i := 9) rfl)) (by decide) (by decide)) q5a q5c (g := (mkF m 25 #[.val .null, .val (.ref b1), .val (.int (2 : Int32)), .val (.int (0 : Int32)), .val (.ref w_CSV)] [.null, (.ref s0u)])) rfl (by rw [hml]; rfl) (Steps.refl _) (argsL := [.null]) (rest := []) (lenOf pd_rmN0_1 rfl) rfl (by show 2 * 0 + _ ≤ _; exact Nat.le_of_eq rfl) (hb hby d8_25) (fun _ _ => ⟨rfl, e4, (by decide : 1 + 0 ≤ _), (by decide : 2 + 0 ≤ _)⟩)
  dsimp only [Pt.U, Pt.locs, Pt.cells, Pt.slots] at X5 l5 y5 z5 st5 hQ5
  subst l5 y5 z5
  obtain ⟨rfl, N5q, e5⟩ := hQ5
  have N5 := Fr.app N1 N5q
  obtain ⟨cl6, Ar6, q6, S6, N6_, H6, G6⟩ := id V1q
  obtain ⟨T7, X7, e7, st7⟩ := getF X5 hx hZ hown (host := "") (Or.inl (hw _ (List.mem_of_getElem? (i := 57) rfl))) Via.refl e5 (Fld.ext E1q s1F) (g := (mkF m 21 #[.val .null, .val (.ref b1), .val (.int (2 : Int32)), .val (.int (1 : Int32)), .val (.ref w_CAMT_054)] [(.ref w_CAMT_054)])) rfl rfl (hb hby d8_21)
  obtain ⟨cq8, kq8, q8a, q8b, q8c⟩ := isOf hZ e7 (Exa.ext E1q s1E)
  obtain ⟨_, _, ⟨T8, L8, k8, n8⟩, -, X8, ⟨Lc8, hQ8, l8, y8, z8⟩, st8⟩ := X7.virtualBack hx (y := (⟨"java/lang/String", "equals", "(Ljava/lang/Object;)Z"⟩ : MethodName)) (z := (⟨"java/lang/String", "equals", "(Ljava/lang/Object;)Z"⟩ : MethodName)) hown (mvT hZ (hw _ (List.mem_of_getElem? (i := 59) rfl))) (mvT hZ (hw _ (List.mem_of_getElem? (i := 60) rfl))) (notFace_of_selects (args := #[]) (mvT hZ (hw _ (List.mem_of_getElem? (i := 62) rfl)))) (mvT hZ (hw _ (List.mem_of_getElem? (i := 62) rfl))) (mvT hZ (hw _ (List.mem_of_getElem? (i := 61) rfl))) (by decide) (backOf (W := 0) (rmQ l Z a0 hw [] s1u T1.heap n0 (Nat.le_trans Z0 K1.1)) hZ (hw _ (List.mem_of_getElem? (i := 63) rfl)) (hw _ (List.mem_of_getElem? (i := 9) rfl)) (by decide) (by decide)) q8a q8c (g := (mkF m 25 #[.val .null, .val (.ref b1), .val (.int (2 : Int32)), .val (.int (1 : Int32)), .val (.ref w_CAMT_054)] [.null, (.ref s1u)])) rfl (by rw [hml]; rfl) (Steps.refl _) (argsL := [.null]) (rest := []) (lenOf pd_rmN0_1 rfl) rfl (by show 2 * 0 + _ ≤ _; exact Nat.le_of_eq rfl) (hb hby d8_25) (fun _ _ => ⟨rfl, e7, (by decide : 1 + 0 ≤ _), (by decide : 2 + 0 ≤ _)⟩)
  dsimp only [Pt.U, Pt.locs, Pt.cells, Pt.slots] at X8 l8 y8 z8 st8 hQ8
  subst l8 y8 z8
  obtain ⟨rfl, N8q, e8⟩ := hQ8
  have N8 := Fr.app N5 N8q
  obtain ⟨fs, hr, hrun, hended, hW, hsame⟩ := X8.leave (v := some .null) (fun h => by rw [Bd.returns] at h; cases h)
  refine ⟨_, _, pre0 _ ?_, hrun, hended, _, _, rfl, ?_, ⟨_, rfl⟩, hW, hsame.mono (by decide) (by decide)⟩
  · show Steps p.tables e below (s₁.setTop (mkF m 0 #[.val .null, .unset, .unset, .unset, .unset] [])) _
    refine st1 _ ?_
    show Steps p.tables e below (T1.setTop (mkF m 3 #[.val .null, .unset, .unset, .unset, .unset] [(.ref b1)])) _
    refine XS.astoreN X1.here hx rfl (hb hby d8_3) rfl rfl (l' := #[.val .null, .val (.ref b1), .unset, .unset, .unset]) rfl ?_
    show Steps p.tables e below (T1.setTop (mkF m 4 #[.val .null, .val (.ref b1), .unset, .unset, .unset] [])) _
    refine XS.aloadN X1.here hx rfl (hb hby d8_4) rfl rfl ?_
    show Steps p.tables e below (T1.setTop (mkF m 5 #[.val .null, .val (.ref b1), .unset, .unset, .unset] [(.ref b1)])) _
    refine X1.arraylength hx (Ar2.1) (State.isArrayOf_alike hZ.alike Ar2.2.1) (g := (mkF m 5 #[.val .null, .val (.ref b1), .unset, .unset, .unset] [(.ref b1)])) rfl rfl (hb hby d8_5) _ ?_
    rw [len_of S2 N2_]
    show Steps p.tables e below (T1.setTop (mkF m 6 #[.val .null, .val (.ref b1), .unset, .unset, .unset] [(.int (2 : Int32))])) _
    refine XS.istoreN X1.here hx rfl (hb hby d8_6) rfl (l' := #[.val .null, .val (.ref b1), .val (.int (2 : Int32)), .unset, .unset]) rfl ?_
    show Steps p.tables e below (T1.setTop (mkF m 7 #[.val .null, .val (.ref b1), .val (.int (2 : Int32)), .unset, .unset] [])) _
    refine XS.iconst X1.here hx rfl (hb hby d8_7) ?_
    show Steps p.tables e below (T1.setTop (mkF m 8 #[.val .null, .val (.ref b1), .val (.int (2 : Int32)), .unset, .unset] [(.int (0 : Int32))])) _
    refine XS.istoreN X1.here hx rfl (hb hby d8_8) rfl (l' := #[.val .null, .val (.ref b1), .val (.int (2 : Int32)), .val (.int (0 : Int32)), .unset]) rfl ?_
    show Steps p.tables e below (T1.setTop (mkF m 9 #[.val .null, .val (.ref b1), .val (.int (2 : Int32)), .val (.int (0 : Int32)), .unset] [])) _
    refine XS.iloadN X1.here hx rfl (hb hby d8_9) rfl ?_
    show Steps p.tables e below (T1.setTop (mkF m 10 #[.val .null, .val (.ref b1), .val (.int (2 : Int32)), .val (.int (0 : Int32)), .unset] [(.int (0 : Int32))])) _
    refine XS.iloadN X1.here hx rfl (hb hby d8_10) rfl ?_
    show Steps p.tables e below (T1.setTop (mkF m 11 #[.val .null, .val (.ref b1), .val (.int (2 : Int32)), .val (.int (0 : Int32)), .unset] [(.int (2 : Int32)), (.int (0 : Int32))])) _
    refine XS.icmpNo X1.here hx rfl (hb hby d8_11) rfl (tlt (by decide : (0 : Int32) < (2 : Int32))).2.1 ?_
    show Steps p.tables e below (T1.setTop (mkF m 14 #[.val .null, .val (.ref b1), .val (.int (2 : Int32)), .val (.int (0 : Int32)), .unset] [])) _
    refine XS.aloadN X1.here hx rfl (hb hby d8_14) rfl rfl ?_
    show Steps p.tables e below (T1.setTop (mkF m 15 #[.val .null, .val (.ref b1), .val (.int (2 : Int32)), .val (.int (0 : Int32)), .unset] [(.ref b1)])) _
    refine XS.iloadN X1.here hx rfl (hb hby d8_15) rfl ?_
    show Steps p.tables e below (T1.setTop (mkF m 16 #[.val .null, .val (.ref b1), .val (.int (2 : Int32)), .val (.int (0 : Int32)), .unset] [(.int (0 : Int32)), (.ref b1)])) _
    refine X1.aaload hx (j := (0 : Int32)) (v := (.ref w_CSV)) (Ar3.1) (State.isArrayOf_alike hZ.alike Ar3.2.1) rfl Ar3.2.2 (inb_of S3 ⟨by decide, by decide⟩) (show cl3.slots[((0 : Int32)).toNatClampNeg]? = some (.ref w_CSV) from H3 0 (by rw [S3]; decide)) (g := (mkF m 16 #[.val .null, .val (.ref b1), .val (.int (2 : Int32)), .val (.int (0 : Int32)), .unset] [(.int (0 : Int32)), (.ref b1)])) rfl rfl (hb hby d8_16) _ ?_
    show Steps p.tables e below (T1.setTop (mkF m 17 #[.val .null, .val (.ref b1), .val (.int (2 : Int32)), .val (.int (0 : Int32)), .unset] [(.ref w_CSV)])) _
    refine XS.astore X1.here hx rfl (hb hby d8_17) rfl rfl (l' := #[.val .null, .val (.ref b1), .val (.int (2 : Int32)), .val (.int (0 : Int32)), .val (.ref w_CSV)]) rfl ?_
    show Steps p.tables e below (T1.setTop (mkF m 19 #[.val .null, .val (.ref b1), .val (.int (2 : Int32)), .val (.int (0 : Int32)), .val (.ref w_CSV)] [])) _
    refine XS.aload X1.here hx rfl (hb hby d8_19) rfl rfl ?_
    show Steps p.tables e below (T1.setTop (mkF m 21 #[.val .null, .val (.ref b1), .val (.int (2 : Int32)), .val (.int (0 : Int32)), .val (.ref w_CSV)] [(.ref w_CSV)])) _
    refine st4 _ ?_
    show Steps p.tables e below (T4.setTop (mkF m 24 #[.val .null, .val (.ref b1), .val (.int (2 : Int32)), .val (.int (0 : Int32)), .val (.ref w_CSV)] [(.ref s0u)])) _
    refine XS.aloadN X4.here hx rfl (hb hby d8_24) rfl rfl ?_
    show Steps p.tables e below (T4.setTop (mkF m 25 #[.val .null, .val (.ref b1), .val (.int (2 : Int32)), .val (.int (0 : Int32)), .val (.ref w_CSV)] [.null, (.ref s0u)])) _
    refine st5.trans ?_
    show Steps p.tables e below (T5.setTop (mkF m 28 #[.val .null, .val (.ref b1), .val (.int (2 : Int32)), .val (.int (0 : Int32)), .val (.ref w_CSV)] [(.int (0 : Int32))])) _
    refine XS.ifYes X5.here hx rfl (pc0 := 28) (pc' := 34) rfl (hb hby d8_28) rfl ((if0 _ _).trans (teq (rfl : (0 : Int32) = (0 : Int32))).1) (by decide) (by decide) ?_
    show Steps p.tables e below (T5.setTop (mkF m 34 #[.val .null, .val (.ref b1), .val (.int (2 : Int32)), .val (.int (0 : Int32)), .val (.ref w_CSV)] [])) _
    refine XS.iinc X5.here hx rfl (hb hby d8_34) rfl (l' := #[.val .null, .val (.ref b1), .val (.int (2 : Int32)), .val (.int (1 : Int32)), .val (.ref w_CSV)]) rfl ?_
    show Steps p.tables e below (T5.setTop (mkF m 37 #[.val .null, .val (.ref b1), .val (.int (2 : Int32)), .val (.int (1 : Int32)), .val (.ref w_CSV)] [])) _
    refine XS.goto X5.here hx rfl (pc0 := 37) (pc' := 9) rfl (hb hby d8_37) (by decide) (by decide) ?_
    show Steps p.tables e below (T5.setTop (mkF m 9 #[.val .null, .val (.ref b1), .val (.int (2 : Int32)), .val (.int (1 : Int32)), .val (.ref w_CSV)] [])) _
    refine XS.iloadN X5.here hx rfl (hb hby d8_9) rfl ?_
    show Steps p.tables e below (T5.setTop (mkF m 10 #[.val .null, .val (.ref b1), .val (.int (2 : Int32)), .val (.int (1 : Int32)), .val (.ref w_CSV)] [(.int (1 : Int32))])) _
    refine XS.iloadN X5.here hx rfl (hb hby d8_10) rfl ?_
    show Steps p.tables e below (T5.setTop (mkF m 11 #[.val .null, .val (.ref b1), .val (.int (2 : Int32)), .val (.int (1 : Int32)), .val (.ref w_CSV)] [(.int (2 : Int32)), (.int (1 : Int32))])) _
    refine XS.icmpNo X5.here hx rfl (hb hby d8_11) rfl (tlt (by decide : (1 : Int32) < (2 : Int32))).2.1 ?_
    show Steps p.tables e below (T5.setTop (mkF m 14 #[.val .null, .val (.ref b1), .val (.int (2 : Int32)), .val (.int (1 : Int32)), .val (.ref w_CSV)] [])) _
    refine XS.aloadN X5.here hx rfl (hb hby d8_14) rfl rfl ?_
    show Steps p.tables e below (T5.setTop (mkF m 15 #[.val .null, .val (.ref b1), .val (.int (2 : Int32)), .val (.int (1 : Int32)), .val (.ref w_CSV)] [(.ref b1)])) _
    refine XS.iloadN X5.here hx rfl (hb hby d8_15) rfl ?_
    show Steps p.tables e below (T5.setTop (mkF m 16 #[.val .null, .val (.ref b1), .val (.int (2 : Int32)), .val (.int (1 : Int32)), .val (.ref w_CSV)] [(.int (1 : Int32)), (.ref b1)])) _
    refine X5.aaload hx (j := (1 : Int32)) (v := (.ref w_CAMT_054)) (by rw [e5]; exact Ar6.1) (State.isArrayOf_alike hZ.alike Ar6.2.1) rfl Ar6.2.2 (inb_of S6 ⟨by decide, by decide⟩) (show cl6.slots[((1 : Int32)).toNatClampNeg]? = some (.ref w_CAMT_054) from H6 1 (by rw [S6]; decide)) (g := (mkF m 16 #[.val .null, .val (.ref b1), .val (.int (2 : Int32)), .val (.int (1 : Int32)), .val (.ref w_CSV)] [(.int (1 : Int32)), (.ref b1)])) rfl rfl (hb hby d8_16) _ ?_
    show Steps p.tables e below (T5.setTop (mkF m 17 #[.val .null, .val (.ref b1), .val (.int (2 : Int32)), .val (.int (1 : Int32)), .val (.ref w_CSV)] [(.ref w_CAMT_054)])) _
    refine XS.astore X5.here hx rfl (hb hby d8_17) rfl rfl (l' := #[.val .null, .val (.ref b1), .val (.int (2 : Int32)), .val (.int (1 : Int32)), .val (.ref w_CAMT_054)]) rfl ?_
    show Steps p.tables e below (T5.setTop (mkF m 19 #[.val .null, .val (.ref b1), .val (.int (2 : Int32)), .val (.int (1 : Int32)), .val (.ref w_CAMT_054)] [])) _
    refine XS.aload X5.here hx rfl (hb hby d8_19) rfl rfl ?_
    show Steps p.tables e below (T5.setTop (mkF m 21 #[.val .null, .val (.ref b1), .val (.int (2 : Int32)), .val (.int (1 : Int32)), .val (.ref w_CAMT_054)] [(.ref w_CAMT_054)])) _
    refine st7 _ ?_
    show Steps p.tables e below (T7.setTop (mkF m 24 #[.val .null, .val (.ref b1), .val (.int (2 : Int32)), .val (.int (1 : Int32)), .val (.ref w_CAMT_054)] [(.ref s1u)])) _
    refine XS.aloadN X7.here hx rfl (hb hby d8_24) rfl rfl ?_
    show Steps p.tables e below (T7.setTop (mkF m 25 #[.val .null, .val (.ref b1), .val (.int (2 : Int32)), .val (.int (1 : Int32)), .val (.ref w_CAMT_054)] [.null, (.ref s1u)])) _
    refine st8.trans ?_
    show Steps p.tables e below (T8.setTop (mkF m 28 #[.val .null, .val (.ref b1), .val (.int (2 : Int32)), .val (.int (1 : Int32)), .val (.ref w_CAMT_054)] [(.int (0 : Int32))])) _
    refine XS.ifYes X8.here hx rfl (pc0 := 28) (pc' := 34) rfl (hb hby d8_28) rfl ((if0 _ _).trans (teq (rfl : (0 : Int32) = (0 : Int32))).1) (by decide) (by decide) ?_
    show Steps p.tables e below (T8.setTop (mkF m 34 #[.val .null, .val (.ref b1), .val (.int (2 : Int32)), .val (.int (1 : Int32)), .val (.ref w_CAMT_054)] [])) _
    refine XS.iinc X8.here hx rfl (hb hby d8_34) rfl (l' := #[.val .null, .val (.ref b1), .val (.int (2 : Int32)), .val (.int (2 : Int32)), .val (.ref w_CAMT_054)]) rfl ?_
    show Steps p.tables e below (T8.setTop (mkF m 37 #[.val .null, .val (.ref b1), .val (.int (2 : Int32)), .val (.int (2 : Int32)), .val (.ref w_CAMT_054)] [])) _
    refine XS.goto X8.here hx rfl (pc0 := 37) (pc' := 9) rfl (hb hby d8_37) (by decide) (by decide) ?_
    show Steps p.tables e below (T8.setTop (mkF m 9 #[.val .null, .val (.ref b1), .val (.int (2 : Int32)), .val (.int (2 : Int32)), .val (.ref w_CAMT_054)] [])) _
    refine XS.iloadN X8.here hx rfl (hb hby d8_9) rfl ?_
    show Steps p.tables e below (T8.setTop (mkF m 10 #[.val .null, .val (.ref b1), .val (.int (2 : Int32)), .val (.int (2 : Int32)), .val (.ref w_CAMT_054)] [(.int (2 : Int32))])) _
    refine XS.iloadN X8.here hx rfl (hb hby d8_10) rfl ?_
    show Steps p.tables e below (T8.setTop (mkF m 11 #[.val .null, .val (.ref b1), .val (.int (2 : Int32)), .val (.int (2 : Int32)), .val (.ref w_CAMT_054)] [(.int (2 : Int32)), (.int (2 : Int32))])) _
    refine XS.icmpYes X8.here hx rfl (pc0 := 11) (pc' := 40) rfl (hb hby d8_11) rfl (flt (by decide : ¬ ((2 : Int32) < (2 : Int32)))).2.1 (by decide) (by decide) ?_
    show Steps p.tables e below (T8.setTop (mkF m 40 #[.val .null, .val (.ref b1), .val (.int (2 : Int32)), .val (.int (2 : Int32)), .val (.ref w_CAMT_054)] [])) _
    refine XS.aconstNull X8.here hx rfl (hb hby d8_40) ?_
    show Steps p.tables e below (T8.setTop (mkF m 41 #[.val .null, .val (.ref b1), .val (.int (2 : Int32)), .val (.int (2 : Int32)), .val (.ref w_CAMT_054)] [.null])) _
    jvm_step X8.here [X8.here.top, hx, (hb hby d8_41), X8.method', Bd.returns, Value.isRef, FieldType.isReference]
    first | (intro acts; rw [hr _ acts rfl rfl rfl]) | rw [hr _ _ rfl rfl rfl]
    exact Steps.refl _
  · show Q_rmN0 Z wV kV w_CSV w_CAMT_054 s0u s0t s0k s1u s1t s1k zc h0 n0 _ T8.heap _
    rw [e8]
    exact ⟨rfl, N8, own_keep_ext K1⟩
theorem own_narb {c : Int32} (h : ¬ c < 0 ∧ ¬ (255 : Int32) < c) : ¬ nar .char c < 0 ∧ ¬ (255 : Int32) < nar .char c := by rw [own_narc h]; exact h
theorem own_ne10 : ¬ cs0 = cs1 := by decide
theorem pn_rm0 : plainName "com/example/payspread/payspread/io/FormatNamedPinLaw" = true := by first | (simp [plainName, overriddenIn]; done) | decide +kernel
theorem pd_rm0_0 : parseMethodDescriptor "(Ljava/lang/String;)Lcom/example/payspread/payspread/io/PaymentsFile$Format;" = some ⟨[(.object "java/lang/String")], some (.object "com/example/payspread/payspread/io/PaymentsFile$Format")⟩ := by decide +kernel
theorem pd_rm0_1 : parseMethodDescriptor "()Ljava/lang/String;" = some ⟨[], some (.object "java/lang/String")⟩ := by decide +kernel
theorem pd_rm0_2 : parseMethodDescriptor "(Ljava/lang/Object;)Z" = some ⟨[(.object "java/lang/Object")], some .boolean⟩ := by decide +kernel
theorem pd_rm0_3 : parseMethodDescriptor "(I[C)Ljava/lang/String;" = some ⟨[.int, (.array .char)], some (.object "java/lang/String")⟩ := by decide +kernel
theorem ef_rm0 (m : MethodId) (p1 : Int32) (p2 : Int32) (q3 : Int64) (q4 : Int64) (p5 : Int32) (p6 : Int32) : entryFrame m #[(.int p1), (.int p2), (.long q3), (.long q4), (.int p5), (.int p6)] maxLocals = mkF m 0 #[.val (.int p1), .val (.int p2), .val (.long q3), .second, .val (.long q4), .second, .val (.int p5), .val (.int p6), .unset, .unset, .unset, .unset, .unset, .unset, .unset, .unset, .unset, .unset] [] := by first | (simp [entryFrame, mkF, argsToLocals, Value.category, maxLocals]; done) | rfl
def Q_rm0 (Z : State) (p1 : Int32) (p2 : Int32) (q3 : Int64) (q4 : Int64) (p5 : Int32) (p6 : Int32) (wV : Addr) (kV : ClassId) (w_CSV : Addr) (w_CAMT_054 : Addr) (s0u : Addr) (s0t : Addr) (s0k : ClassId) (s1u : Addr) (s1t : Addr) (s1k : ClassId) (zc : Int32) (h0 : Heap) (n0 : Nat) (v : Option Value) (h : Heap) (VM : Vm) (L : List Loc) : Prop := v = some (.int (1 : Int32)) ∧ Fr n0 L
set_option maxRecDepth 65536 in
set_option maxHeartbeats 40000000 in
theorem rm0 (l : Launch) (Z : State) (a0 : Array Value) (hw : ∀ d ∈ tables_1, d.before a0 Z = true) (ws : List Jvm.Cond) (p1 : Int32) (p2 : Int32) (q3 : Int64) (q4 : Int64) (p5 : Int32) (p6 : Int32) (wV : Addr) (kV : ClassId) (w_CSV : Addr) (w_CAMT_054 : Addr) (s0u : Addr) (s0t : Addr) (s0k : ClassId) (s1u : Addr) (s1t : Addr) (s1k : ClassId) (zc : Int32) (h0 : Heap) (n0 : Nat) (Z0 : n0 ≤ h0.size) (S_V : Sta Z h0 "com/example/payspread/payspread/io/PaymentsFile$Format" "$VALUES" "[Lcom/example/payspread/payspread/io/PaymentsFile$Format;" (.ref wV)) (V_V : Arv Z h0 wV kV (.object "com/example/payspread/payspread/io/PaymentsFile$Format") (2 : Int32) [.ref w_CSV, .ref w_CAMT_054] .null) (E_V : Exa Z h0 wV "[Lcom/example/payspread/payspread/io/PaymentsFile$Format;") (s0F : Fld Z h0 w_CSV "com/example/payspread/payspread/io/PaymentsFile$Format" "formatName" "Ljava/lang/String;" (.ref s0u)) (s0E : Exa Z h0 s0u "java/lang/String") (s0V : Fld Z h0 s0u "java/lang/String" "value" "[B" (.ref s0t)) (s0C : Fld Z h0 s0u "java/lang/String" "coder" "B" (.int (0 : Int32))) (s0K : Arv Z h0 s0t s0k .byte (3 : Int32) (cs0.map Value.int) (.int 0)) (s1F : Fld Z h0 w_CAMT_054 "com/example/payspread/payspread/io/PaymentsFile$Format" "formatName" "Ljava/lang/String;" (.ref s1u)) (s1E : Exa Z h0 s1u "java/lang/String") (s1V : Fld Z h0 s1u "java/lang/String" "value" "[B" (.ref s1t)) (s1C : Fld Z h0 s1u "java/lang/String" "coder" "B" (.int (0 : Int32))) (s1K : Arv Z h0 s1t s1k .byte (8 : Int32) (cs1.map Value.int) (.int 0)) (S_C : Sta Z h0 "java/lang/String" "COMPACT_STRINGS" "Z" (.int zc)) (hzc : ¬ zc = 0) (S_CSV : Sta Z h0 "com/example/payspread/payspread/io/PaymentsFile$Format" "CSV" "Lcom/example/payspread/payspread/io/PaymentsFile$Format;" (.ref w_CSV)) (S_CAMT_054 : Sta Z h0 "com/example/payspread/payspread/io/PaymentsFile$Format" "CAMT_054" "Lcom/example/payspread/payspread/io/PaymentsFile$Format;" (.ref w_CAMT_054)) (E_CSV : Exa Z h0 w_CSV "com/example/payspread/payspread/io/PaymentsFile$Format") (E_CAMT_054 : Exa Z h0 w_CAMT_054 "com/example/payspread/payspread/io/PaymentsFile$Format") (hkeepZ : ∀ (b : Addr) (cl : Cell), Z.heap[b]? = some cl → h0[b]? = some cl) (hcw : Jvm.Lit.compactW.before a0 Z = true) (hE7 : Jvm.Lit.constHeld Z "java/lang/String" 7) (hh22 : Jvm.Lit.constHeld Z "com/example/payspread/payspread/io/FormatNamedPinLaw" 22) (hh34 : Jvm.Lit.constHeld Z "com/example/payspread/payspread/io/FormatNamedPinLaw" 34) (hn0 : n0 = h0.size) :
    MetFree l x (head1 (Jvm.Cond.code x code maxLocals ret :: ws) room_1) (fun a U => a = #[(.int p1), (.int p2), (.long q3), (.long q4), (.int p5), (.int p6)] ∧ Z.Warmed39 U.vm ∧ U.heap = h0 ∧ U.vm.interned = Z.vm.interned) (fun _ _ _ _ _ => True) (fun _ U o U' => ∃ v L, o = .returned v ∧ Q_rm0 Z p1 p2 q3 q4 p5 p6 wV kV w_CSV w_CAMT_054 s0u s0t s0k s1u s1t s1k zc h0 n0 v U'.heap U'.vm L ∧ ReturnedEndW U o U' L room_1.cells room_1.slots) := by
  refine MetFree.of_bodySF (plainFor_of_name pn_rm0) hisR ?_
  intro p e s m args below meth c s₁ Bd hml0 hP hK
  obtain ⟨rfl, hZ, hh, hin0⟩ := hP
  have hx := Bd.exec
  have hby := Bd.bytes
  have hml : c.maxLocals = 18 := hml0
  have hown : s.vm.findClass "com/example/payspread/payspread/io/FormatNamedPinLaw" = some m.cls := findClass_of_methodNamed Bd.named
  have hnm := (name_of_methodNamed Bd.named Bd.method).1
  have X0 : Stand p l e room_1 s m #[(.int p1), (.int p2), (.long q3), (.long q4), (.int p5), (.int p6)] below meth c s₁ [] 0 0 := Stand.of_body Bd
  have e0 : s₁.heap = h0 := by rw [← hh, Bd.state]; rfl
  have N0 := Fr.nil n0
  have pre0 : ∀ t, Steps p.tables e below (s₁.setTop (mkF m 0 #[.val (.int p1), .val (.int p2), .val (.long q3), .second, .val (.long q4), .second, .val (.int p5), .val (.int p6), .unset, .unset, .unset, .unset, .unset, .unset, .unset, .unset, .unset, .unset] [])) t → Steps p.tables e below (s₁.setTop (entryFrame m #[(.int p1), (.int p2), (.long q3), (.long q4), (.int p5), (.int p6)] maxLocals)) t := fun t k => castTop (ef_rm0 m p1 p2 q3 q4 p5 p6) k
  have I0 : IB Z s.vm [] := own_ib hin0
  have hwsS : ∀ d ∈ Bundle.stringAtoms, d.before a0 Z = true := fun d hd => hw d ((by decide +kernel : ∀ d ∈ Bundle.stringAtoms, d ∈ tables_1) d hd)
  have hS0 : s.Since s.vm 0 := (State.WarmedH.refl s).since 0
  have hwsE : ∀ d ∈ StrChars.Road.wordsEq, d.before a0 Z = true := fun d hd => hw d ((by decide +kernel : ∀ d ∈ StrChars.Road.wordsEq, d ∈ tables_1) d hd)
  obtain ⟨T1, h1, k1, X1, e1, E1, A1, st1⟩ := newP X0 hx hZ (hw _ (List.mem_of_getElem? (i := 1) rfl)) e0 (g := (mkF m 16 #[.val (.int p1), .val (.int p2), .val (.long q3), .second, .val (.long q4), .second, .val (.int p5), .val (.int p6), .val (.int (p1 &&& (3 : Int32))), .val (.int ((p2 &&& (2147483647 : Int32)) % (10 : Int32))), .unset, .unset, .unset, .unset, .unset, .unset, .unset, .unset] [(.int (9 : Int32))])) rfl (hb hby at_16) rfl (by decide) (cap := 9) (by decide) (by decide) (by decide) (by decide)
  obtain ⟨b1, g1⟩ : ∃ z, z = h0.size := ⟨_, rfl⟩
  rw [← g1] at A1 st1
  have ne_s0t_b1 : s0t ≠ b1 := Nat.ne_of_lt (Nat.lt_of_lt_of_le s0K.lt (Nat.le_of_eq g1.symm))
  have ne_s0u_b1 : s0u ≠ b1 := Nat.ne_of_lt (Nat.lt_of_lt_of_le s0E.lt (Nat.le_of_eq g1.symm))
  have ne_s1t_b1 : s1t ≠ b1 := Nat.ne_of_lt (Nat.lt_of_lt_of_le s1K.lt (Nat.le_of_eq g1.symm))
  have ne_s1u_b1 : s1u ≠ b1 := Nat.ne_of_lt (Nat.lt_of_lt_of_le s1E.lt (Nat.le_of_eq g1.symm))
  have V_b1 : Arv Z h1 b1 k1 .char (9 : Int32) [(.int (0 : Int32)), (.int (0 : Int32)), (.int (0 : Int32)), (.int (0 : Int32)), (.int (0 : Int32)), (.int (0 : Int32)), (.int (0 : Int32)), (.int (0 : Int32)), (.int (0 : Int32))] (.int (0 : Int32)) := (Arv.new A1 (by decide)).pad (pad_rep [] (.int (0 : Int32)) 9)
  have g_b1 : n0 ≤ b1 := Nat.le_trans Z0 (Nat.le_of_eq g1.symm)
  have sz_b1 : h0.size ≤ b1 := Nat.le_trans ((Keep.refl h0 [])).1 (Nat.le_of_eq g1.symm)
  have K1 : Keep h0 h1 [] := ((Keep.refl h0 [])).ext E1
  have pre3 : ∀ t, Steps p.tables e below (T1.setTop (mkF m 30 #[.val (.int p1), .val (.int p2), .val (.long q3), .second, .val (.long q4), .second, .val (.int p5), .val (.int p6), .val (.int (p1 &&& (3 : Int32))), .val (.int ((p2 &&& (2147483647 : Int32)) % (10 : Int32))), .val (.ref b1), .unset, .unset, .unset, .unset, .unset, .unset, .unset] [(.int (((q3 &&& (255 : Int64)).toInt32).toUInt32.toUInt16.toUInt32.toInt32)), (.int (0 : Int32)), (.ref b1)])) t → Steps p.tables e below (s₁.setTop (entryFrame m #[(.int p1), (.int p2), (.long q3), (.long q4), (.int p5), (.int p6)] maxLocals)) t := fun t k => pre0 t (by
      show Steps p.tables e below (s₁.setTop (mkF m 0 #[.val (.int p1), .val (.int p2), .val (.long q3), .second, .val (.long q4), .second, .val (.int p5), .val (.int p6), .unset, .unset, .unset, .unset, .unset, .unset, .unset, .unset, .unset, .unset] [])) _
      refine XS.iloadN X0.here hx rfl (hb hby at_0) rfl ?_
      show Steps p.tables e below (s₁.setTop (mkF m 1 #[.val (.int p1), .val (.int p2), .val (.long q3), .second, .val (.long q4), .second, .val (.int p5), .val (.int p6), .unset, .unset, .unset, .unset, .unset, .unset, .unset, .unset, .unset, .unset] [(.int p1)])) _
      refine XS.iconst X0.here hx rfl (hb hby at_1) ?_
      show Steps p.tables e below (s₁.setTop (mkF m 2 #[.val (.int p1), .val (.int p2), .val (.long q3), .second, .val (.long q4), .second, .val (.int p5), .val (.int p6), .unset, .unset, .unset, .unset, .unset, .unset, .unset, .unset, .unset, .unset] [(.int (3 : Int32)), (.int p1)])) _
      refine XS.iand X0.here hx rfl (hb hby at_2) rfl ?_
      show Steps p.tables e below (s₁.setTop (mkF m 3 #[.val (.int p1), .val (.int p2), .val (.long q3), .second, .val (.long q4), .second, .val (.int p5), .val (.int p6), .unset, .unset, .unset, .unset, .unset, .unset, .unset, .unset, .unset, .unset] [(.int (p1 &&& (3 : Int32)))])) _
      refine XS.istore X0.here hx rfl (hb hby at_3) rfl (l' := #[.val (.int p1), .val (.int p2), .val (.long q3), .second, .val (.long q4), .second, .val (.int p5), .val (.int p6), .val (.int (p1 &&& (3 : Int32))), .unset, .unset, .unset, .unset, .unset, .unset, .unset, .unset, .unset]) rfl ?_
      show Steps p.tables e below (s₁.setTop (mkF m 5 #[.val (.int p1), .val (.int p2), .val (.long q3), .second, .val (.long q4), .second, .val (.int p5), .val (.int p6), .val (.int (p1 &&& (3 : Int32))), .unset, .unset, .unset, .unset, .unset, .unset, .unset, .unset, .unset] [])) _
      refine XS.iloadN X0.here hx rfl (hb hby at_5) rfl ?_
      show Steps p.tables e below (s₁.setTop (mkF m 6 #[.val (.int p1), .val (.int p2), .val (.long q3), .second, .val (.long q4), .second, .val (.int p5), .val (.int p6), .val (.int (p1 &&& (3 : Int32))), .unset, .unset, .unset, .unset, .unset, .unset, .unset, .unset, .unset] [(.int p2)])) _
      refine X0.ldcInt hx hown (mvT hZ (hw _ (List.mem_of_getElem? (i := 0) rfl))) (g := (mkF m 6 #[.val (.int p1), .val (.int p2), .val (.long q3), .second, .val (.long q4), .second, .val (.int p5), .val (.int p6), .val (.int (p1 &&& (3 : Int32))), .unset, .unset, .unset, .unset, .unset, .unset, .unset, .unset, .unset] [(.int p2)])) rfl (hb hby at_6) _ ?_
      show Steps p.tables e below (s₁.setTop (mkF m 8 #[.val (.int p1), .val (.int p2), .val (.long q3), .second, .val (.long q4), .second, .val (.int p5), .val (.int p6), .val (.int (p1 &&& (3 : Int32))), .unset, .unset, .unset, .unset, .unset, .unset, .unset, .unset, .unset] [(.int (2147483647 : Int32)), (.int p2)])) _
      refine XS.iand X0.here hx rfl (hb hby at_8) rfl ?_
      show Steps p.tables e below (s₁.setTop (mkF m 9 #[.val (.int p1), .val (.int p2), .val (.long q3), .second, .val (.long q4), .second, .val (.int p5), .val (.int p6), .val (.int (p1 &&& (3 : Int32))), .unset, .unset, .unset, .unset, .unset, .unset, .unset, .unset, .unset] [(.int (p2 &&& (2147483647 : Int32)))])) _
      refine XS.bipush X0.here hx rfl (hb hby at_9) ?_
      show Steps p.tables e below (s₁.setTop (mkF m 11 #[.val (.int p1), .val (.int p2), .val (.long q3), .second, .val (.long q4), .second, .val (.int p5), .val (.int p6), .val (.int (p1 &&& (3 : Int32))), .unset, .unset, .unset, .unset, .unset, .unset, .unset, .unset, .unset] [(.int (10 : Int32)), (.int (p2 &&& (2147483647 : Int32)))])) _
      refine Jvm.RoadKit.iremM (g := (mkF m 11 #[.val (.int p1), .val (.int p2), .val (.long q3), .second, .val (.long q4), .second, .val (.int p5), .val (.int p6), .val (.int (p1 &&& (3 : Int32))), .unset, .unset, .unset, .unset, .unset, .unset, .unset, .unset, .unset] [(.int (10 : Int32)), (.int (p2 &&& (2147483647 : Int32)))])) X0 hx rfl (hb hby at_11) rfl (by decide) ?_
      show Steps p.tables e below (s₁.setTop (mkF m 12 #[.val (.int p1), .val (.int p2), .val (.long q3), .second, .val (.long q4), .second, .val (.int p5), .val (.int p6), .val (.int (p1 &&& (3 : Int32))), .unset, .unset, .unset, .unset, .unset, .unset, .unset, .unset, .unset] [(.int ((p2 &&& (2147483647 : Int32)) % (10 : Int32)))])) _
      refine XS.istore X0.here hx rfl (hb hby at_12) rfl (l' := #[.val (.int p1), .val (.int p2), .val (.long q3), .second, .val (.long q4), .second, .val (.int p5), .val (.int p6), .val (.int (p1 &&& (3 : Int32))), .val (.int ((p2 &&& (2147483647 : Int32)) % (10 : Int32))), .unset, .unset, .unset, .unset, .unset, .unset, .unset, .unset]) rfl ?_
      show Steps p.tables e below (s₁.setTop (mkF m 14 #[.val (.int p1), .val (.int p2), .val (.long q3), .second, .val (.long q4), .second, .val (.int p5), .val (.int p6), .val (.int (p1 &&& (3 : Int32))), .val (.int ((p2 &&& (2147483647 : Int32)) % (10 : Int32))), .unset, .unset, .unset, .unset, .unset, .unset, .unset, .unset] [])) _
      refine XS.bipush X0.here hx rfl (hb hby at_14) ?_
      show Steps p.tables e below (s₁.setTop (mkF m 16 #[.val (.int p1), .val (.int p2), .val (.long q3), .second, .val (.long q4), .second, .val (.int p5), .val (.int p6), .val (.int (p1 &&& (3 : Int32))), .val (.int ((p2 &&& (2147483647 : Int32)) % (10 : Int32))), .unset, .unset, .unset, .unset, .unset, .unset, .unset, .unset] [(.int (9 : Int32))])) _
      refine st1 _ ?_
      show Steps p.tables e below (T1.setTop (mkF m 18 #[.val (.int p1), .val (.int p2), .val (.long q3), .second, .val (.long q4), .second, .val (.int p5), .val (.int p6), .val (.int (p1 &&& (3 : Int32))), .val (.int ((p2 &&& (2147483647 : Int32)) % (10 : Int32))), .unset, .unset, .unset, .unset, .unset, .unset, .unset, .unset] [(.ref b1)])) _
      refine XS.astore X1.here hx rfl (hb hby at_18) rfl rfl (l' := #[.val (.int p1), .val (.int p2), .val (.long q3), .second, .val (.long q4), .second, .val (.int p5), .val (.int p6), .val (.int (p1 &&& (3 : Int32))), .val (.int ((p2 &&& (2147483647 : Int32)) % (10 : Int32))), .val (.ref b1), .unset, .unset, .unset, .unset, .unset, .unset, .unset]) rfl ?_
      show Steps p.tables e below (T1.setTop (mkF m 20 #[.val (.int p1), .val (.int p2), .val (.long q3), .second, .val (.long q4), .second, .val (.int p5), .val (.int p6), .val (.int (p1 &&& (3 : Int32))), .val (.int ((p2 &&& (2147483647 : Int32)) % (10 : Int32))), .val (.ref b1), .unset, .unset, .unset, .unset, .unset, .unset, .unset] [])) _
      refine XS.aload X1.here hx rfl (hb hby at_20) rfl rfl ?_
      show Steps p.tables e below (T1.setTop (mkF m 22 #[.val (.int p1), .val (.int p2), .val (.long q3), .second, .val (.long q4), .second, .val (.int p5), .val (.int p6), .val (.int (p1 &&& (3 : Int32))), .val (.int ((p2 &&& (2147483647 : Int32)) % (10 : Int32))), .val (.ref b1), .unset, .unset, .unset, .unset, .unset, .unset, .unset] [(.ref b1)])) _
      refine XS.iconst X1.here hx rfl (hb hby at_22) ?_
      show Steps p.tables e below (T1.setTop (mkF m 23 #[.val (.int p1), .val (.int p2), .val (.long q3), .second, .val (.long q4), .second, .val (.int p5), .val (.int p6), .val (.int (p1 &&& (3 : Int32))), .val (.int ((p2 &&& (2147483647 : Int32)) % (10 : Int32))), .val (.ref b1), .unset, .unset, .unset, .unset, .unset, .unset, .unset] [(.int (0 : Int32)), (.ref b1)])) _
      refine XS.lloadN X1.here hx rfl (hb hby at_23) rfl ?_
      show Steps p.tables e below (T1.setTop (mkF m 24 #[.val (.int p1), .val (.int p2), .val (.long q3), .second, .val (.long q4), .second, .val (.int p5), .val (.int p6), .val (.int (p1 &&& (3 : Int32))), .val (.int ((p2 &&& (2147483647 : Int32)) % (10 : Int32))), .val (.ref b1), .unset, .unset, .unset, .unset, .unset, .unset, .unset] [(.long q3), (.int (0 : Int32)), (.ref b1)])) _
      refine X1.ldc2Long hx hown (mvT hZ (hw _ (List.mem_of_getElem? (i := 2) rfl))) (g := (mkF m 24 #[.val (.int p1), .val (.int p2), .val (.long q3), .second, .val (.long q4), .second, .val (.int p5), .val (.int p6), .val (.int (p1 &&& (3 : Int32))), .val (.int ((p2 &&& (2147483647 : Int32)) % (10 : Int32))), .val (.ref b1), .unset, .unset, .unset, .unset, .unset, .unset, .unset] [(.long q3), (.int (0 : Int32)), (.ref b1)])) rfl (hb hby at_24) _ ?_
      show Steps p.tables e below (T1.setTop (mkF m 27 #[.val (.int p1), .val (.int p2), .val (.long q3), .second, .val (.long q4), .second, .val (.int p5), .val (.int p6), .val (.int (p1 &&& (3 : Int32))), .val (.int ((p2 &&& (2147483647 : Int32)) % (10 : Int32))), .val (.ref b1), .unset, .unset, .unset, .unset, .unset, .unset, .unset] [(.long (255 : Int64)), (.long q3), (.int (0 : Int32)), (.ref b1)])) _
      refine XS.land X1.here hx rfl (hb hby at_27) rfl ?_
      show Steps p.tables e below (T1.setTop (mkF m 28 #[.val (.int p1), .val (.int p2), .val (.long q3), .second, .val (.long q4), .second, .val (.int p5), .val (.int p6), .val (.int (p1 &&& (3 : Int32))), .val (.int ((p2 &&& (2147483647 : Int32)) % (10 : Int32))), .val (.ref b1), .unset, .unset, .unset, .unset, .unset, .unset, .unset] [(.long (q3 &&& (255 : Int64))), (.int (0 : Int32)), (.ref b1)])) _
      refine XS.l2i X1.here hx rfl (hb hby at_28) rfl ?_
      show Steps p.tables e below (T1.setTop (mkF m 29 #[.val (.int p1), .val (.int p2), .val (.long q3), .second, .val (.long q4), .second, .val (.int p5), .val (.int p6), .val (.int (p1 &&& (3 : Int32))), .val (.int ((p2 &&& (2147483647 : Int32)) % (10 : Int32))), .val (.ref b1), .unset, .unset, .unset, .unset, .unset, .unset, .unset] [(.int ((q3 &&& (255 : Int64)).toInt32)), (.int (0 : Int32)), (.ref b1)])) _
      refine XS.i2c X1.here hx rfl (hb hby at_29) rfl ?_
      exact k)
  obtain ⟨v2, hv2⟩ : ∃ z, z = (((q3 &&& (255 : Int64)).toInt32).toUInt32.toUInt16.toUInt32.toInt32) := ⟨_, rfl⟩
  have pre4 : ∀ t, Steps p.tables e below (T1.setTop (mkF m 30 #[.val (.int p1), .val (.int p2), .val (.long q3), .second, .val (.long q4), .second, .val (.int p5), .val (.int p6), .val (.int (p1 &&& (3 : Int32))), .val (.int ((p2 &&& (2147483647 : Int32)) % (10 : Int32))), .val (.ref b1), .unset, .unset, .unset, .unset, .unset, .unset, .unset] [(.int v2), (.int (0 : Int32)), (.ref b1)])) t → Steps p.tables e below (s₁.setTop (entryFrame m #[(.int p1), (.int p2), (.long q3), (.long q4), (.int p5), (.int p6)] maxLocals)) t := fun t k => pre3 t (by rw [← hv2]; exact k)
  have hb_v2 : ¬ v2 < 0 ∧ ¬ (255 : Int32) < v2 := by rw [hv2]; exact own_cL _
  obtain ⟨cl5, Ar5, q5, S5, N5_, H5, G5⟩ := id V_b1
  obtain ⟨T5, h5, X5, e5, W5, st5⟩ := stC X1 hx hZ e1 Ar5 (j := (0 : Int32)) (inb_of S5 ⟨by decide, by decide⟩) (g := (mkF m 30 #[.val (.int p1), .val (.int p2), .val (.long q3), .second, .val (.long q4), .second, .val (.int p5), .val (.int p6), .val (.int (p1 &&& (3 : Int32))), .val (.int ((p2 &&& (2147483647 : Int32)) % (10 : Int32))), .val (.ref b1), .unset, .unset, .unset, .unset, .unset, .unset, .unset] [(.int v2), (.int (0 : Int32)), (.ref b1)])) rfl rfl (hb hby at_30)
  have V5 := Arv.set Ar5 q5 S5 N5_ H5 G5 (fits_nar_char _) W5 0 rfl (Nat.le_of_ble_eq_true rfl)
  have K5 : Keep h0 h5 [] := (K1).wr W5 (Or.inr sz_b1)
  have N5 := Fr.snoc X5 N0 g_b1
  have pre7 : ∀ t, Steps p.tables e below (T5.setTop (mkF m 44 #[.val (.int p1), .val (.int p2), .val (.long q3), .second, .val (.long q4), .second, .val (.int p5), .val (.int p6), .val (.int (p1 &&& (3 : Int32))), .val (.int ((p2 &&& (2147483647 : Int32)) % (10 : Int32))), .val (.ref b1), .unset, .unset, .unset, .unset, .unset, .unset, .unset] [(.int (((((q3.toUInt64 >>> ((8 : Int32) &&& 0x3f).toInt64.toUInt64).toInt64) &&& (255 : Int64)).toInt32).toUInt32.toUInt16.toUInt32.toInt32)), (.int (1 : Int32)), (.ref b1)])) t → Steps p.tables e below (s₁.setTop (entryFrame m #[(.int p1), (.int p2), (.long q3), (.long q4), (.int p5), (.int p6)] maxLocals)) t := fun t k => pre4 t (by
      show Steps p.tables e below (T1.setTop (mkF m 30 #[.val (.int p1), .val (.int p2), .val (.long q3), .second, .val (.long q4), .second, .val (.int p5), .val (.int p6), .val (.int (p1 &&& (3 : Int32))), .val (.int ((p2 &&& (2147483647 : Int32)) % (10 : Int32))), .val (.ref b1), .unset, .unset, .unset, .unset, .unset, .unset, .unset] [(.int v2), (.int (0 : Int32)), (.ref b1)])) _
      refine st5 _ ?_
      show Steps p.tables e below (T5.setTop (mkF m 31 #[.val (.int p1), .val (.int p2), .val (.long q3), .second, .val (.long q4), .second, .val (.int p5), .val (.int p6), .val (.int (p1 &&& (3 : Int32))), .val (.int ((p2 &&& (2147483647 : Int32)) % (10 : Int32))), .val (.ref b1), .unset, .unset, .unset, .unset, .unset, .unset, .unset] [])) _
      refine XS.aload X5.here hx rfl (hb hby at_31) rfl rfl ?_
      show Steps p.tables e below (T5.setTop (mkF m 33 #[.val (.int p1), .val (.int p2), .val (.long q3), .second, .val (.long q4), .second, .val (.int p5), .val (.int p6), .val (.int (p1 &&& (3 : Int32))), .val (.int ((p2 &&& (2147483647 : Int32)) % (10 : Int32))), .val (.ref b1), .unset, .unset, .unset, .unset, .unset, .unset, .unset] [(.ref b1)])) _
      refine XS.iconst X5.here hx rfl (hb hby at_33) ?_
      show Steps p.tables e below (T5.setTop (mkF m 34 #[.val (.int p1), .val (.int p2), .val (.long q3), .second, .val (.long q4), .second, .val (.int p5), .val (.int p6), .val (.int (p1 &&& (3 : Int32))), .val (.int ((p2 &&& (2147483647 : Int32)) % (10 : Int32))), .val (.ref b1), .unset, .unset, .unset, .unset, .unset, .unset, .unset] [(.int (1 : Int32)), (.ref b1)])) _
      refine XS.lloadN X5.here hx rfl (hb hby at_34) rfl ?_
      show Steps p.tables e below (T5.setTop (mkF m 35 #[.val (.int p1), .val (.int p2), .val (.long q3), .second, .val (.long q4), .second, .val (.int p5), .val (.int p6), .val (.int (p1 &&& (3 : Int32))), .val (.int ((p2 &&& (2147483647 : Int32)) % (10 : Int32))), .val (.ref b1), .unset, .unset, .unset, .unset, .unset, .unset, .unset] [(.long q3), (.int (1 : Int32)), (.ref b1)])) _
      refine XS.bipush X5.here hx rfl (hb hby at_35) ?_
      show Steps p.tables e below (T5.setTop (mkF m 37 #[.val (.int p1), .val (.int p2), .val (.long q3), .second, .val (.long q4), .second, .val (.int p5), .val (.int p6), .val (.int (p1 &&& (3 : Int32))), .val (.int ((p2 &&& (2147483647 : Int32)) % (10 : Int32))), .val (.ref b1), .unset, .unset, .unset, .unset, .unset, .unset, .unset] [(.int (8 : Int32)), (.long q3), (.int (1 : Int32)), (.ref b1)])) _
      refine XS.lushr X5.here hx rfl (hb hby at_37) rfl ?_
      show Steps p.tables e below (T5.setTop (mkF m 38 #[.val (.int p1), .val (.int p2), .val (.long q3), .second, .val (.long q4), .second, .val (.int p5), .val (.int p6), .val (.int (p1 &&& (3 : Int32))), .val (.int ((p2 &&& (2147483647 : Int32)) % (10 : Int32))), .val (.ref b1), .unset, .unset, .unset, .unset, .unset, .unset, .unset] [(.long ((q3.toUInt64 >>> ((8 : Int32) &&& 0x3f).toInt64.toUInt64).toInt64)), (.int (1 : Int32)), (.ref b1)])) _
      refine X5.ldc2Long hx hown (mvT hZ (hw _ (List.mem_of_getElem? (i := 2) rfl))) (g := (mkF m 38 #[.val (.int p1), .val (.int p2), .val (.long q3), .second, .val (.long q4), .second, .val (.int p5), .val (.int p6), .val (.int (p1 &&& (3 : Int32))), .val (.int ((p2 &&& (2147483647 : Int32)) % (10 : Int32))), .val (.ref b1), .unset, .unset, .unset, .unset, .unset, .unset, .unset] [(.long ((q3.toUInt64 >>> ((8 : Int32) &&& 0x3f).toInt64.toUInt64).toInt64)), (.int (1 : Int32)), (.ref b1)])) rfl (hb hby at_38) _ ?_
      show Steps p.tables e below (T5.setTop (mkF m 41 #[.val (.int p1), .val (.int p2), .val (.long q3), .second, .val (.long q4), .second, .val (.int p5), .val (.int p6), .val (.int (p1 &&& (3 : Int32))), .val (.int ((p2 &&& (2147483647 : Int32)) % (10 : Int32))), .val (.ref b1), .unset, .unset, .unset, .unset, .unset, .unset, .unset] [(.long (255 : Int64)), (.long ((q3.toUInt64 >>> ((8 : Int32) &&& 0x3f).toInt64.toUInt64).toInt64)), (.int (1 : Int32)), (.ref b1)])) _
      refine XS.land X5.here hx rfl (hb hby at_41) rfl ?_
      show Steps p.tables e below (T5.setTop (mkF m 42 #[.val (.int p1), .val (.int p2), .val (.long q3), .second, .val (.long q4), .second, .val (.int p5), .val (.int p6), .val (.int (p1 &&& (3 : Int32))), .val (.int ((p2 &&& (2147483647 : Int32)) % (10 : Int32))), .val (.ref b1), .unset, .unset, .unset, .unset, .unset, .unset, .unset] [(.long (((q3.toUInt64 >>> ((8 : Int32) &&& 0x3f).toInt64.toUInt64).toInt64) &&& (255 : Int64))), (.int (1 : Int32)), (.ref b1)])) _
      refine XS.l2i X5.here hx rfl (hb hby at_42) rfl ?_
      show Steps p.tables e below (T5.setTop (mkF m 43 #[.val (.int p1), .val (.int p2), .val (.long q3), .second, .val (.long q4), .second, .val (.int p5), .val (.int p6), .val (.int (p1 &&& (3 : Int32))), .val (.int ((p2 &&& (2147483647 : Int32)) % (10 : Int32))), .val (.ref b1), .unset, .unset, .unset, .unset, .unset, .unset, .unset] [(.int ((((q3.toUInt64 >>> ((8 : Int32) &&& 0x3f).toInt64.toUInt64).toInt64) &&& (255 : Int64)).toInt32)), (.int (1 : Int32)), (.ref b1)])) _
      refine XS.i2c X5.here hx rfl (hb hby at_43) rfl ?_
      exact k)
  obtain ⟨v6, hv6⟩ : ∃ z, z = (((((q3.toUInt64 >>> ((8 : Int32) &&& 0x3f).toInt64.toUInt64).toInt64) &&& (255 : Int64)).toInt32).toUInt32.toUInt16.toUInt32.toInt32) := ⟨_, rfl⟩
  have pre8 : ∀ t, Steps p.tables e below (T5.setTop (mkF m 44 #[.val (.int p1), .val (.int p2), .val (.long q3), .second, .val (.long q4), .second, .val (.int p5), .val (.int p6), .val (.int (p1 &&& (3 : Int32))), .val (.int ((p2 &&& (2147483647 : Int32)) % (10 : Int32))), .val (.ref b1), .unset, .unset, .unset, .unset, .unset, .unset, .unset] [(.int v6), (.int (1 : Int32)), (.ref b1)])) t → Steps p.tables e below (s₁.setTop (entryFrame m #[(.int p1), (.int p2), (.long q3), (.long q4), (.int p5), (.int p6)] maxLocals)) t := fun t k => pre7 t (by rw [← hv6]; exact k)
  have hb_v6 : ¬ v6 < 0 ∧ ¬ (255 : Int32) < v6 := by rw [hv6]; exact own_cL _
  obtain ⟨cl9, Ar9, q9, S9, N9_, H9, G9⟩ := id V5
  obtain ⟨T9, h9, X9, e9, W9, st9⟩ := stC X5 hx hZ e5 Ar9 (j := (1 : Int32)) (inb_of S9 ⟨by decide, by decide⟩) (g := (mkF m 44 #[.val (.int p1), .val (.int p2), .val (.long q3), .second, .val (.long q4), .second, .val (.int p5), .val (.int p6), .val (.int (p1 &&& (3 : Int32))), .val (.int ((p2 &&& (2147483647 : Int32)) % (10 : Int32))), .val (.ref b1), .unset, .unset, .unset, .unset, .unset, .unset, .unset] [(.int v6), (.int (1 : Int32)), (.ref b1)])) rfl rfl (hb hby at_44)
  have V9 := Arv.set Ar9 q9 S9 N9_ H9 G9 (fits_nar_char _) W9 1 rfl (Nat.le_of_ble_eq_true rfl)
  have K9 : Keep h0 h9 [] := (K5).wr W9 (Or.inr sz_b1)
  have N9 := Fr.snoc X9 N5 g_b1
  have pre11 : ∀ t, Steps p.tables e below (T9.setTop (mkF m 58 #[.val (.int p1), .val (.int p2), .val (.long q3), .second, .val (.long q4), .second, .val (.int p5), .val (.int p6), .val (.int (p1 &&& (3 : Int32))), .val (.int ((p2 &&& (2147483647 : Int32)) % (10 : Int32))), .val (.ref b1), .unset, .unset, .unset, .unset, .unset, .unset, .unset] [(.int (((((q3.toUInt64 >>> ((16 : Int32) &&& 0x3f).toInt64.toUInt64).toInt64) &&& (255 : Int64)).toInt32).toUInt32.toUInt16.toUInt32.toInt32)), (.int (2 : Int32)), (.ref b1)])) t → Steps p.tables e below (s₁.setTop (entryFrame m #[(.int p1), (.int p2), (.long q3), (.long q4), (.int p5), (.int p6)] maxLocals)) t := fun t k => pre8 t (by
      show Steps p.tables e below (T5.setTop (mkF m 44 #[.val (.int p1), .val (.int p2), .val (.long q3), .second, .val (.long q4), .second, .val (.int p5), .val (.int p6), .val (.int (p1 &&& (3 : Int32))), .val (.int ((p2 &&& (2147483647 : Int32)) % (10 : Int32))), .val (.ref b1), .unset, .unset, .unset, .unset, .unset, .unset, .unset] [(.int v6), (.int (1 : Int32)), (.ref b1)])) _
      refine st9 _ ?_
      show Steps p.tables e below (T9.setTop (mkF m 45 #[.val (.int p1), .val (.int p2), .val (.long q3), .second, .val (.long q4), .second, .val (.int p5), .val (.int p6), .val (.int (p1 &&& (3 : Int32))), .val (.int ((p2 &&& (2147483647 : Int32)) % (10 : Int32))), .val (.ref b1), .unset, .unset, .unset, .unset, .unset, .unset, .unset] [])) _
      refine XS.aload X9.here hx rfl (hb hby at_45) rfl rfl ?_
      show Steps p.tables e below (T9.setTop (mkF m 47 #[.val (.int p1), .val (.int p2), .val (.long q3), .second, .val (.long q4), .second, .val (.int p5), .val (.int p6), .val (.int (p1 &&& (3 : Int32))), .val (.int ((p2 &&& (2147483647 : Int32)) % (10 : Int32))), .val (.ref b1), .unset, .unset, .unset, .unset, .unset, .unset, .unset] [(.ref b1)])) _
      refine XS.iconst X9.here hx rfl (hb hby at_47) ?_
      show Steps p.tables e below (T9.setTop (mkF m 48 #[.val (.int p1), .val (.int p2), .val (.long q3), .second, .val (.long q4), .second, .val (.int p5), .val (.int p6), .val (.int (p1 &&& (3 : Int32))), .val (.int ((p2 &&& (2147483647 : Int32)) % (10 : Int32))), .val (.ref b1), .unset, .unset, .unset, .unset, .unset, .unset, .unset] [(.int (2 : Int32)), (.ref b1)])) _
      refine XS.lloadN X9.here hx rfl (hb hby at_48) rfl ?_
      show Steps p.tables e below (T9.setTop (mkF m 49 #[.val (.int p1), .val (.int p2), .val (.long q3), .second, .val (.long q4), .second, .val (.int p5), .val (.int p6), .val (.int (p1 &&& (3 : Int32))), .val (.int ((p2 &&& (2147483647 : Int32)) % (10 : Int32))), .val (.ref b1), .unset, .unset, .unset, .unset, .unset, .unset, .unset] [(.long q3), (.int (2 : Int32)), (.ref b1)])) _
      refine XS.bipush X9.here hx rfl (hb hby at_49) ?_
      show Steps p.tables e below (T9.setTop (mkF m 51 #[.val (.int p1), .val (.int p2), .val (.long q3), .second, .val (.long q4), .second, .val (.int p5), .val (.int p6), .val (.int (p1 &&& (3 : Int32))), .val (.int ((p2 &&& (2147483647 : Int32)) % (10 : Int32))), .val (.ref b1), .unset, .unset, .unset, .unset, .unset, .unset, .unset] [(.int (16 : Int32)), (.long q3), (.int (2 : Int32)), (.ref b1)])) _
      refine XS.lushr X9.here hx rfl (hb hby at_51) rfl ?_
      show Steps p.tables e below (T9.setTop (mkF m 52 #[.val (.int p1), .val (.int p2), .val (.long q3), .second, .val (.long q4), .second, .val (.int p5), .val (.int p6), .val (.int (p1 &&& (3 : Int32))), .val (.int ((p2 &&& (2147483647 : Int32)) % (10 : Int32))), .val (.ref b1), .unset, .unset, .unset, .unset, .unset, .unset, .unset] [(.long ((q3.toUInt64 >>> ((16 : Int32) &&& 0x3f).toInt64.toUInt64).toInt64)), (.int (2 : Int32)), (.ref b1)])) _
      refine X9.ldc2Long hx hown (mvT hZ (hw _ (List.mem_of_getElem? (i := 2) rfl))) (g := (mkF m 52 #[.val (.int p1), .val (.int p2), .val (.long q3), .second, .val (.long q4), .second, .val (.int p5), .val (.int p6), .val (.int (p1 &&& (3 : Int32))), .val (.int ((p2 &&& (2147483647 : Int32)) % (10 : Int32))), .val (.ref b1), .unset, .unset, .unset, .unset, .unset, .unset, .unset] [(.long ((q3.toUInt64 >>> ((16 : Int32) &&& 0x3f).toInt64.toUInt64).toInt64)), (.int (2 : Int32)), (.ref b1)])) rfl (hb hby at_52) _ ?_
      show Steps p.tables e below (T9.setTop (mkF m 55 #[.val (.int p1), .val (.int p2), .val (.long q3), .second, .val (.long q4), .second, .val (.int p5), .val (.int p6), .val (.int (p1 &&& (3 : Int32))), .val (.int ((p2 &&& (2147483647 : Int32)) % (10 : Int32))), .val (.ref b1), .unset, .unset, .unset, .unset, .unset, .unset, .unset] [(.long (255 : Int64)), (.long ((q3.toUInt64 >>> ((16 : Int32) &&& 0x3f).toInt64.toUInt64).toInt64)), (.int (2 : Int32)), (.ref b1)])) _
      refine XS.land X9.here hx rfl (hb hby at_55) rfl ?_
      show Steps p.tables e below (T9.setTop (mkF m 56 #[.val (.int p1), .val (.int p2), .val (.long q3), .second, .val (.long q4), .second, .val (.int p5), .val (.int p6), .val (.int (p1 &&& (3 : Int32))), .val (.int ((p2 &&& (2147483647 : Int32)) % (10 : Int32))), .val (.ref b1), .unset, .unset, .unset, .unset, .unset, .unset, .unset] [(.long (((q3.toUInt64 >>> ((16 : Int32) &&& 0x3f).toInt64.toUInt64).toInt64) &&& (255 : Int64))), (.int (2 : Int32)), (.ref b1)])) _
      refine XS.l2i X9.here hx rfl (hb hby at_56) rfl ?_
      show Steps p.tables e below (T9.setTop (mkF m 57 #[.val (.int p1), .val (.int p2), .val (.long q3), .second, .val (.long q4), .second, .val (.int p5), .val (.int p6), .val (.int (p1 &&& (3 : Int32))), .val (.int ((p2 &&& (2147483647 : Int32)) % (10 : Int32))), .val (.ref b1), .unset, .unset, .unset, .unset, .unset, .unset, .unset] [(.int ((((q3.toUInt64 >>> ((16 : Int32) &&& 0x3f).toInt64.toUInt64).toInt64) &&& (255 : Int64)).toInt32)), (.int (2 : Int32)), (.ref b1)])) _
      refine XS.i2c X9.here hx rfl (hb hby at_57) rfl ?_
      exact k)
  obtain ⟨v10, hv10⟩ : ∃ z, z = (((((q3.toUInt64 >>> ((16 : Int32) &&& 0x3f).toInt64.toUInt64).toInt64) &&& (255 : Int64)).toInt32).toUInt32.toUInt16.toUInt32.toInt32) := ⟨_, rfl⟩
  have pre12 : ∀ t, Steps p.tables e below (T9.setTop (mkF m 58 #[.val (.int p1), .val (.int p2), .val (.long q3), .second, .val (.long q4), .second, .val (.int p5), .val (.int p6), .val (.int (p1 &&& (3 : Int32))), .val (.int ((p2 &&& (2147483647 : Int32)) % (10 : Int32))), .val (.ref b1), .unset, .unset, .unset, .unset, .unset, .unset, .unset] [(.int v10), (.int (2 : Int32)), (.ref b1)])) t → Steps p.tables e below (s₁.setTop (entryFrame m #[(.int p1), (.int p2), (.long q3), (.long q4), (.int p5), (.int p6)] maxLocals)) t := fun t k => pre11 t (by rw [← hv10]; exact k)
  have hb_v10 : ¬ v10 < 0 ∧ ¬ (255 : Int32) < v10 := by rw [hv10]; exact own_cL _
  obtain ⟨cl13, Ar13, q13, S13, N13_, H13, G13⟩ := id V9
  obtain ⟨T13, h13, X13, e13, W13, st13⟩ := stC X9 hx hZ e9 Ar13 (j := (2 : Int32)) (inb_of S13 ⟨by decide, by decide⟩) (g := (mkF m 58 #[.val (.int p1), .val (.int p2), .val (.long q3), .second, .val (.long q4), .second, .val (.int p5), .val (.int p6), .val (.int (p1 &&& (3 : Int32))), .val (.int ((p2 &&& (2147483647 : Int32)) % (10 : Int32))), .val (.ref b1), .unset, .unset, .unset, .unset, .unset, .unset, .unset] [(.int v10), (.int (2 : Int32)), (.ref b1)])) rfl rfl (hb hby at_58)
  have V13 := Arv.set Ar13 q13 S13 N13_ H13 G13 (fits_nar_char _) W13 2 rfl (Nat.le_of_ble_eq_true rfl)
  have K13 : Keep h0 h13 [] := (K9).wr W13 (Or.inr sz_b1)
  have N13 := Fr.snoc X13 N9 g_b1
  have pre15 : ∀ t, Steps p.tables e below (T13.setTop (mkF m 72 #[.val (.int p1), .val (.int p2), .val (.long q3), .second, .val (.long q4), .second, .val (.int p5), .val (.int p6), .val (.int (p1 &&& (3 : Int32))), .val (.int ((p2 &&& (2147483647 : Int32)) % (10 : Int32))), .val (.ref b1), .unset, .unset, .unset, .unset, .unset, .unset, .unset] [(.int (((((q3.toUInt64 >>> ((24 : Int32) &&& 0x3f).toInt64.toUInt64).toInt64) &&& (255 : Int64)).toInt32).toUInt32.toUInt16.toUInt32.toInt32)), (.int (3 : Int32)), (.ref b1)])) t → Steps p.tables e below (s₁.setTop (entryFrame m #[(.int p1), (.int p2), (.long q3), (.long q4), (.int p5), (.int p6)] maxLocals)) t := fun t k => pre12 t (by
      show Steps p.tables e below (T9.setTop (mkF m 58 #[.val (.int p1), .val (.int p2), .val (.long q3), .second, .val (.long q4), .second, .val (.int p5), .val (.int p6), .val (.int (p1 &&& (3 : Int32))), .val (.int ((p2 &&& (2147483647 : Int32)) % (10 : Int32))), .val (.ref b1), .unset, .unset, .unset, .unset, .unset, .unset, .unset] [(.int v10), (.int (2 : Int32)), (.ref b1)])) _
      refine st13 _ ?_
      show Steps p.tables e below (T13.setTop (mkF m 59 #[.val (.int p1), .val (.int p2), .val (.long q3), .second, .val (.long q4), .second, .val (.int p5), .val (.int p6), .val (.int (p1 &&& (3 : Int32))), .val (.int ((p2 &&& (2147483647 : Int32)) % (10 : Int32))), .val (.ref b1), .unset, .unset, .unset, .unset, .unset, .unset, .unset] [])) _
      refine XS.aload X13.here hx rfl (hb hby at_59) rfl rfl ?_
      show Steps p.tables e below (T13.setTop (mkF m 61 #[.val (.int p1), .val (.int p2), .val (.long q3), .second, .val (.long q4), .second, .val (.int p5), .val (.int p6), .val (.int (p1 &&& (3 : Int32))), .val (.int ((p2 &&& (2147483647 : Int32)) % (10 : Int32))), .val (.ref b1), .unset, .unset, .unset, .unset, .unset, .unset, .unset] [(.ref b1)])) _
      refine XS.iconst X13.here hx rfl (hb hby at_61) ?_
      show Steps p.tables e below (T13.setTop (mkF m 62 #[.val (.int p1), .val (.int p2), .val (.long q3), .second, .val (.long q4), .second, .val (.int p5), .val (.int p6), .val (.int (p1 &&& (3 : Int32))), .val (.int ((p2 &&& (2147483647 : Int32)) % (10 : Int32))), .val (.ref b1), .unset, .unset, .unset, .unset, .unset, .unset, .unset] [(.int (3 : Int32)), (.ref b1)])) _
      refine XS.lloadN X13.here hx rfl (hb hby at_62) rfl ?_
      show Steps p.tables e below (T13.setTop (mkF m 63 #[.val (.int p1), .val (.int p2), .val (.long q3), .second, .val (.long q4), .second, .val (.int p5), .val (.int p6), .val (.int (p1 &&& (3 : Int32))), .val (.int ((p2 &&& (2147483647 : Int32)) % (10 : Int32))), .val (.ref b1), .unset, .unset, .unset, .unset, .unset, .unset, .unset] [(.long q3), (.int (3 : Int32)), (.ref b1)])) _
      refine XS.bipush X13.here hx rfl (hb hby at_63) ?_
      show Steps p.tables e below (T13.setTop (mkF m 65 #[.val (.int p1), .val (.int p2), .val (.long q3), .second, .val (.long q4), .second, .val (.int p5), .val (.int p6), .val (.int (p1 &&& (3 : Int32))), .val (.int ((p2 &&& (2147483647 : Int32)) % (10 : Int32))), .val (.ref b1), .unset, .unset, .unset, .unset, .unset, .unset, .unset] [(.int (24 : Int32)), (.long q3), (.int (3 : Int32)), (.ref b1)])) _
      refine XS.lushr X13.here hx rfl (hb hby at_65) rfl ?_
      show Steps p.tables e below (T13.setTop (mkF m 66 #[.val (.int p1), .val (.int p2), .val (.long q3), .second, .val (.long q4), .second, .val (.int p5), .val (.int p6), .val (.int (p1 &&& (3 : Int32))), .val (.int ((p2 &&& (2147483647 : Int32)) % (10 : Int32))), .val (.ref b1), .unset, .unset, .unset, .unset, .unset, .unset, .unset] [(.long ((q3.toUInt64 >>> ((24 : Int32) &&& 0x3f).toInt64.toUInt64).toInt64)), (.int (3 : Int32)), (.ref b1)])) _
      refine X13.ldc2Long hx hown (mvT hZ (hw _ (List.mem_of_getElem? (i := 2) rfl))) (g := (mkF m 66 #[.val (.int p1), .val (.int p2), .val (.long q3), .second, .val (.long q4), .second, .val (.int p5), .val (.int p6), .val (.int (p1 &&& (3 : Int32))), .val (.int ((p2 &&& (2147483647 : Int32)) % (10 : Int32))), .val (.ref b1), .unset, .unset, .unset, .unset, .unset, .unset, .unset] [(.long ((q3.toUInt64 >>> ((24 : Int32) &&& 0x3f).toInt64.toUInt64).toInt64)), (.int (3 : Int32)), (.ref b1)])) rfl (hb hby at_66) _ ?_
      show Steps p.tables e below (T13.setTop (mkF m 69 #[.val (.int p1), .val (.int p2), .val (.long q3), .second, .val (.long q4), .second, .val (.int p5), .val (.int p6), .val (.int (p1 &&& (3 : Int32))), .val (.int ((p2 &&& (2147483647 : Int32)) % (10 : Int32))), .val (.ref b1), .unset, .unset, .unset, .unset, .unset, .unset, .unset] [(.long (255 : Int64)), (.long ((q3.toUInt64 >>> ((24 : Int32) &&& 0x3f).toInt64.toUInt64).toInt64)), (.int (3 : Int32)), (.ref b1)])) _
      refine XS.land X13.here hx rfl (hb hby at_69) rfl ?_
      show Steps p.tables e below (T13.setTop (mkF m 70 #[.val (.int p1), .val (.int p2), .val (.long q3), .second, .val (.long q4), .second, .val (.int p5), .val (.int p6), .val (.int (p1 &&& (3 : Int32))), .val (.int ((p2 &&& (2147483647 : Int32)) % (10 : Int32))), .val (.ref b1), .unset, .unset, .unset, .unset, .unset, .unset, .unset] [(.long (((q3.toUInt64 >>> ((24 : Int32) &&& 0x3f).toInt64.toUInt64).toInt64) &&& (255 : Int64))), (.int (3 : Int32)), (.ref b1)])) _
      refine XS.l2i X13.here hx rfl (hb hby at_70) rfl ?_
      show Steps p.tables e below (T13.setTop (mkF m 71 #[.val (.int p1), .val (.int p2), .val (.long q3), .second, .val (.long q4), .second, .val (.int p5), .val (.int p6), .val (.int (p1 &&& (3 : Int32))), .val (.int ((p2 &&& (2147483647 : Int32)) % (10 : Int32))), .val (.ref b1), .unset, .unset, .unset, .unset, .unset, .unset, .unset] [(.int ((((q3.toUInt64 >>> ((24 : Int32) &&& 0x3f).toInt64.toUInt64).toInt64) &&& (255 : Int64)).toInt32)), (.int (3 : Int32)), (.ref b1)])) _
      refine XS.i2c X13.here hx rfl (hb hby at_71) rfl ?_
      exact k)
  obtain ⟨v14, hv14⟩ : ∃ z, z = (((((q3.toUInt64 >>> ((24 : Int32) &&& 0x3f).toInt64.toUInt64).toInt64) &&& (255 : Int64)).toInt32).toUInt32.toUInt16.toUInt32.toInt32) := ⟨_, rfl⟩
  have pre16 : ∀ t, Steps p.tables e below (T13.setTop (mkF m 72 #[.val (.int p1), .val (.int p2), .val (.long q3), .second, .val (.long q4), .second, .val (.int p5), .val (.int p6), .val (.int (p1 &&& (3 : Int32))), .val (.int ((p2 &&& (2147483647 : Int32)) % (10 : Int32))), .val (.ref b1), .unset, .unset, .unset, .unset, .unset, .unset, .unset] [(.int v14), (.int (3 : Int32)), (.ref b1)])) t → Steps p.tables e below (s₁.setTop (entryFrame m #[(.int p1), (.int p2), (.long q3), (.long q4), (.int p5), (.int p6)] maxLocals)) t := fun t k => pre15 t (by rw [← hv14]; exact k)
  have hb_v14 : ¬ v14 < 0 ∧ ¬ (255 : Int32) < v14 := by rw [hv14]; exact own_cL _
  obtain ⟨cl17, Ar17, q17, S17, N17_, H17, G17⟩ := id V13
  obtain ⟨T17, h17, X17, e17, W17, st17⟩ := stC X13 hx hZ e13 Ar17 (j := (3 : Int32)) (inb_of S17 ⟨by decide, by decide⟩) (g := (mkF m 72 #[.val (.int p1), .val (.int p2), .val (.long q3), .second, .val (.long q4), .second, .val (.int p5), .val (.int p6), .val (.int (p1 &&& (3 : Int32))), .val (.int ((p2 &&& (2147483647 : Int32)) % (10 : Int32))), .val (.ref b1), .unset, .unset, .unset, .unset, .unset, .unset, .unset] [(.int v14), (.int (3 : Int32)), (.ref b1)])) rfl rfl (hb hby at_72)
  have V17 := Arv.set Ar17 q17 S17 N17_ H17 G17 (fits_nar_char _) W17 3 rfl (Nat.le_of_ble_eq_true rfl)
  have K17 : Keep h0 h17 [] := (K13).wr W17 (Or.inr sz_b1)
  have N17 := Fr.snoc X17 N13 g_b1
  have pre19 : ∀ t, Steps p.tables e below (T17.setTop (mkF m 86 #[.val (.int p1), .val (.int p2), .val (.long q3), .second, .val (.long q4), .second, .val (.int p5), .val (.int p6), .val (.int (p1 &&& (3 : Int32))), .val (.int ((p2 &&& (2147483647 : Int32)) % (10 : Int32))), .val (.ref b1), .unset, .unset, .unset, .unset, .unset, .unset, .unset] [(.int (((((q3.toUInt64 >>> ((32 : Int32) &&& 0x3f).toInt64.toUInt64).toInt64) &&& (255 : Int64)).toInt32).toUInt32.toUInt16.toUInt32.toInt32)), (.int (4 : Int32)), (.ref b1)])) t → Steps p.tables e below (s₁.setTop (entryFrame m #[(.int p1), (.int p2), (.long q3), (.long q4), (.int p5), (.int p6)] maxLocals)) t := fun t k => pre16 t (by
      show Steps p.tables e below (T13.setTop (mkF m 72 #[.val (.int p1), .val (.int p2), .val (.long q3), .second, .val (.long q4), .second, .val (.int p5), .val (.int p6), .val (.int (p1 &&& (3 : Int32))), .val (.int ((p2 &&& (2147483647 : Int32)) % (10 : Int32))), .val (.ref b1), .unset, .unset, .unset, .unset, .unset, .unset, .unset] [(.int v14), (.int (3 : Int32)), (.ref b1)])) _
      refine st17 _ ?_
      show Steps p.tables e below (T17.setTop (mkF m 73 #[.val (.int p1), .val (.int p2), .val (.long q3), .second, .val (.long q4), .second, .val (.int p5), .val (.int p6), .val (.int (p1 &&& (3 : Int32))), .val (.int ((p2 &&& (2147483647 : Int32)) % (10 : Int32))), .val (.ref b1), .unset, .unset, .unset, .unset, .unset, .unset, .unset] [])) _
      refine XS.aload X17.here hx rfl (hb hby at_73) rfl rfl ?_
      show Steps p.tables e below (T17.setTop (mkF m 75 #[.val (.int p1), .val (.int p2), .val (.long q3), .second, .val (.long q4), .second, .val (.int p5), .val (.int p6), .val (.int (p1 &&& (3 : Int32))), .val (.int ((p2 &&& (2147483647 : Int32)) % (10 : Int32))), .val (.ref b1), .unset, .unset, .unset, .unset, .unset, .unset, .unset] [(.ref b1)])) _
      refine XS.iconst X17.here hx rfl (hb hby at_75) ?_
      show Steps p.tables e below (T17.setTop (mkF m 76 #[.val (.int p1), .val (.int p2), .val (.long q3), .second, .val (.long q4), .second, .val (.int p5), .val (.int p6), .val (.int (p1 &&& (3 : Int32))), .val (.int ((p2 &&& (2147483647 : Int32)) % (10 : Int32))), .val (.ref b1), .unset, .unset, .unset, .unset, .unset, .unset, .unset] [(.int (4 : Int32)), (.ref b1)])) _
      refine XS.lloadN X17.here hx rfl (hb hby at_76) rfl ?_
      show Steps p.tables e below (T17.setTop (mkF m 77 #[.val (.int p1), .val (.int p2), .val (.long q3), .second, .val (.long q4), .second, .val (.int p5), .val (.int p6), .val (.int (p1 &&& (3 : Int32))), .val (.int ((p2 &&& (2147483647 : Int32)) % (10 : Int32))), .val (.ref b1), .unset, .unset, .unset, .unset, .unset, .unset, .unset] [(.long q3), (.int (4 : Int32)), (.ref b1)])) _
      refine XS.bipush X17.here hx rfl (hb hby at_77) ?_
      show Steps p.tables e below (T17.setTop (mkF m 79 #[.val (.int p1), .val (.int p2), .val (.long q3), .second, .val (.long q4), .second, .val (.int p5), .val (.int p6), .val (.int (p1 &&& (3 : Int32))), .val (.int ((p2 &&& (2147483647 : Int32)) % (10 : Int32))), .val (.ref b1), .unset, .unset, .unset, .unset, .unset, .unset, .unset] [(.int (32 : Int32)), (.long q3), (.int (4 : Int32)), (.ref b1)])) _
      refine XS.lushr X17.here hx rfl (hb hby at_79) rfl ?_
      show Steps p.tables e below (T17.setTop (mkF m 80 #[.val (.int p1), .val (.int p2), .val (.long q3), .second, .val (.long q4), .second, .val (.int p5), .val (.int p6), .val (.int (p1 &&& (3 : Int32))), .val (.int ((p2 &&& (2147483647 : Int32)) % (10 : Int32))), .val (.ref b1), .unset, .unset, .unset, .unset, .unset, .unset, .unset] [(.long ((q3.toUInt64 >>> ((32 : Int32) &&& 0x3f).toInt64.toUInt64).toInt64)), (.int (4 : Int32)), (.ref b1)])) _
      refine X17.ldc2Long hx hown (mvT hZ (hw _ (List.mem_of_getElem? (i := 2) rfl))) (g := (mkF m 80 #[.val (.int p1), .val (.int p2), .val (.long q3), .second, .val (.long q4), .second, .val (.int p5), .val (.int p6), .val (.int (p1 &&& (3 : Int32))), .val (.int ((p2 &&& (2147483647 : Int32)) % (10 : Int32))), .val (.ref b1), .unset, .unset, .unset, .unset, .unset, .unset, .unset] [(.long ((q3.toUInt64 >>> ((32 : Int32) &&& 0x3f).toInt64.toUInt64).toInt64)), (.int (4 : Int32)), (.ref b1)])) rfl (hb hby at_80) _ ?_
      show Steps p.tables e below (T17.setTop (mkF m 83 #[.val (.int p1), .val (.int p2), .val (.long q3), .second, .val (.long q4), .second, .val (.int p5), .val (.int p6), .val (.int (p1 &&& (3 : Int32))), .val (.int ((p2 &&& (2147483647 : Int32)) % (10 : Int32))), .val (.ref b1), .unset, .unset, .unset, .unset, .unset, .unset, .unset] [(.long (255 : Int64)), (.long ((q3.toUInt64 >>> ((32 : Int32) &&& 0x3f).toInt64.toUInt64).toInt64)), (.int (4 : Int32)), (.ref b1)])) _
      refine XS.land X17.here hx rfl (hb hby at_83) rfl ?_
      show Steps p.tables e below (T17.setTop (mkF m 84 #[.val (.int p1), .val (.int p2), .val (.long q3), .second, .val (.long q4), .second, .val (.int p5), .val (.int p6), .val (.int (p1 &&& (3 : Int32))), .val (.int ((p2 &&& (2147483647 : Int32)) % (10 : Int32))), .val (.ref b1), .unset, .unset, .unset, .unset, .unset, .unset, .unset] [(.long (((q3.toUInt64 >>> ((32 : Int32) &&& 0x3f).toInt64.toUInt64).toInt64) &&& (255 : Int64))), (.int (4 : Int32)), (.ref b1)])) _
      refine XS.l2i X17.here hx rfl (hb hby at_84) rfl ?_
      show Steps p.tables e below (T17.setTop (mkF m 85 #[.val (.int p1), .val (.int p2), .val (.long q3), .second, .val (.long q4), .second, .val (.int p5), .val (.int p6), .val (.int (p1 &&& (3 : Int32))), .val (.int ((p2 &&& (2147483647 : Int32)) % (10 : Int32))), .val (.ref b1), .unset, .unset, .unset, .unset, .unset, .unset, .unset] [(.int ((((q3.toUInt64 >>> ((32 : Int32) &&& 0x3f).toInt64.toUInt64).toInt64) &&& (255 : Int64)).toInt32)), (.int (4 : Int32)), (.ref b1)])) _
      refine XS.i2c X17.here hx rfl (hb hby at_85) rfl ?_
      exact k)
  obtain ⟨v18, hv18⟩ : ∃ z, z = (((((q3.toUInt64 >>> ((32 : Int32) &&& 0x3f).toInt64.toUInt64).toInt64) &&& (255 : Int64)).toInt32).toUInt32.toUInt16.toUInt32.toInt32) := ⟨_, rfl⟩
  have pre20 : ∀ t, Steps p.tables e below (T17.setTop (mkF m 86 #[.val (.int p1), .val (.int p2), .val (.long q3), .second, .val (.long q4), .second, .val (.int p5), .val (.int p6), .val (.int (p1 &&& (3 : Int32))), .val (.int ((p2 &&& (2147483647 : Int32)) % (10 : Int32))), .val (.ref b1), .unset, .unset, .unset, .unset, .unset, .unset, .unset] [(.int v18), (.int (4 : Int32)), (.ref b1)])) t → Steps p.tables e below (s₁.setTop (entryFrame m #[(.int p1), (.int p2), (.long q3), (.long q4), (.int p5), (.int p6)] maxLocals)) t := fun t k => pre19 t (by rw [← hv18]; exact k)
  have hb_v18 : ¬ v18 < 0 ∧ ¬ (255 : Int32) < v18 := by rw [hv18]; exact own_cL _
  obtain ⟨cl21, Ar21, q21, S21, N21_, H21, G21⟩ := id V17
  obtain ⟨T21, h21, X21, e21, W21, st21⟩ := stC X17 hx hZ e17 Ar21 (j := (4 : Int32)) (inb_of S21 ⟨by decide, by decide⟩) (g := (mkF m 86 #[.val (.int p1), .val (.int p2), .val (.long q3), .second, .val (.long q4), .second, .val (.int p5), .val (.int p6), .val (.int (p1 &&& (3 : Int32))), .val (.int ((p2 &&& (2147483647 : Int32)) % (10 : Int32))), .val (.ref b1), .unset, .unset, .unset, .unset, .unset, .unset, .unset] [(.int v18), (.int (4 : Int32)), (.ref b1)])) rfl rfl (hb hby at_86)
  have V21 := Arv.set Ar21 q21 S21 N21_ H21 G21 (fits_nar_char _) W21 4 rfl (Nat.le_of_ble_eq_true rfl)
  have K21 : Keep h0 h21 [] := (K17).wr W21 (Or.inr sz_b1)
  have N21 := Fr.snoc X21 N17 g_b1
  have pre23 : ∀ t, Steps p.tables e below (T21.setTop (mkF m 100 #[.val (.int p1), .val (.int p2), .val (.long q3), .second, .val (.long q4), .second, .val (.int p5), .val (.int p6), .val (.int (p1 &&& (3 : Int32))), .val (.int ((p2 &&& (2147483647 : Int32)) % (10 : Int32))), .val (.ref b1), .unset, .unset, .unset, .unset, .unset, .unset, .unset] [(.int (((((q3.toUInt64 >>> ((40 : Int32) &&& 0x3f).toInt64.toUInt64).toInt64) &&& (255 : Int64)).toInt32).toUInt32.toUInt16.toUInt32.toInt32)), (.int (5 : Int32)), (.ref b1)])) t → Steps p.tables e below (s₁.setTop (entryFrame m #[(.int p1), (.int p2), (.long q3), (.long q4), (.int p5), (.int p6)] maxLocals)) t := fun t k => pre20 t (by
      show Steps p.tables e below (T17.setTop (mkF m 86 #[.val (.int p1), .val (.int p2), .val (.long q3), .second, .val (.long q4), .second, .val (.int p5), .val (.int p6), .val (.int (p1 &&& (3 : Int32))), .val (.int ((p2 &&& (2147483647 : Int32)) % (10 : Int32))), .val (.ref b1), .unset, .unset, .unset, .unset, .unset, .unset, .unset] [(.int v18), (.int (4 : Int32)), (.ref b1)])) _
      refine st21 _ ?_
      show Steps p.tables e below (T21.setTop (mkF m 87 #[.val (.int p1), .val (.int p2), .val (.long q3), .second, .val (.long q4), .second, .val (.int p5), .val (.int p6), .val (.int (p1 &&& (3 : Int32))), .val (.int ((p2 &&& (2147483647 : Int32)) % (10 : Int32))), .val (.ref b1), .unset, .unset, .unset, .unset, .unset, .unset, .unset] [])) _
      refine XS.aload X21.here hx rfl (hb hby at_87) rfl rfl ?_
      show Steps p.tables e below (T21.setTop (mkF m 89 #[.val (.int p1), .val (.int p2), .val (.long q3), .second, .val (.long q4), .second, .val (.int p5), .val (.int p6), .val (.int (p1 &&& (3 : Int32))), .val (.int ((p2 &&& (2147483647 : Int32)) % (10 : Int32))), .val (.ref b1), .unset, .unset, .unset, .unset, .unset, .unset, .unset] [(.ref b1)])) _
      refine XS.iconst X21.here hx rfl (hb hby at_89) ?_
      show Steps p.tables e below (T21.setTop (mkF m 90 #[.val (.int p1), .val (.int p2), .val (.long q3), .second, .val (.long q4), .second, .val (.int p5), .val (.int p6), .val (.int (p1 &&& (3 : Int32))), .val (.int ((p2 &&& (2147483647 : Int32)) % (10 : Int32))), .val (.ref b1), .unset, .unset, .unset, .unset, .unset, .unset, .unset] [(.int (5 : Int32)), (.ref b1)])) _
      refine XS.lloadN X21.here hx rfl (hb hby at_90) rfl ?_
      show Steps p.tables e below (T21.setTop (mkF m 91 #[.val (.int p1), .val (.int p2), .val (.long q3), .second, .val (.long q4), .second, .val (.int p5), .val (.int p6), .val (.int (p1 &&& (3 : Int32))), .val (.int ((p2 &&& (2147483647 : Int32)) % (10 : Int32))), .val (.ref b1), .unset, .unset, .unset, .unset, .unset, .unset, .unset] [(.long q3), (.int (5 : Int32)), (.ref b1)])) _
      refine XS.bipush X21.here hx rfl (hb hby at_91) ?_
      show Steps p.tables e below (T21.setTop (mkF m 93 #[.val (.int p1), .val (.int p2), .val (.long q3), .second, .val (.long q4), .second, .val (.int p5), .val (.int p6), .val (.int (p1 &&& (3 : Int32))), .val (.int ((p2 &&& (2147483647 : Int32)) % (10 : Int32))), .val (.ref b1), .unset, .unset, .unset, .unset, .unset, .unset, .unset] [(.int (40 : Int32)), (.long q3), (.int (5 : Int32)), (.ref b1)])) _
      refine XS.lushr X21.here hx rfl (hb hby at_93) rfl ?_
      show Steps p.tables e below (T21.setTop (mkF m 94 #[.val (.int p1), .val (.int p2), .val (.long q3), .second, .val (.long q4), .second, .val (.int p5), .val (.int p6), .val (.int (p1 &&& (3 : Int32))), .val (.int ((p2 &&& (2147483647 : Int32)) % (10 : Int32))), .val (.ref b1), .unset, .unset, .unset, .unset, .unset, .unset, .unset] [(.long ((q3.toUInt64 >>> ((40 : Int32) &&& 0x3f).toInt64.toUInt64).toInt64)), (.int (5 : Int32)), (.ref b1)])) _
      refine X21.ldc2Long hx hown (mvT hZ (hw _ (List.mem_of_getElem? (i := 2) rfl))) (g := (mkF m 94 #[.val (.int p1), .val (.int p2), .val (.long q3), .second, .val (.long q4), .second, .val (.int p5), .val (.int p6), .val (.int (p1 &&& (3 : Int32))), .val (.int ((p2 &&& (2147483647 : Int32)) % (10 : Int32))), .val (.ref b1), .unset, .unset, .unset, .unset, .unset, .unset, .unset] [(.long ((q3.toUInt64 >>> ((40 : Int32) &&& 0x3f).toInt64.toUInt64).toInt64)), (.int (5 : Int32)), (.ref b1)])) rfl (hb hby at_94) _ ?_
      show Steps p.tables e below (T21.setTop (mkF m 97 #[.val (.int p1), .val (.int p2), .val (.long q3), .second, .val (.long q4), .second, .val (.int p5), .val (.int p6), .val (.int (p1 &&& (3 : Int32))), .val (.int ((p2 &&& (2147483647 : Int32)) % (10 : Int32))), .val (.ref b1), .unset, .unset, .unset, .unset, .unset, .unset, .unset] [(.long (255 : Int64)), (.long ((q3.toUInt64 >>> ((40 : Int32) &&& 0x3f).toInt64.toUInt64).toInt64)), (.int (5 : Int32)), (.ref b1)])) _
      refine XS.land X21.here hx rfl (hb hby at_97) rfl ?_
      show Steps p.tables e below (T21.setTop (mkF m 98 #[.val (.int p1), .val (.int p2), .val (.long q3), .second, .val (.long q4), .second, .val (.int p5), .val (.int p6), .val (.int (p1 &&& (3 : Int32))), .val (.int ((p2 &&& (2147483647 : Int32)) % (10 : Int32))), .val (.ref b1), .unset, .unset, .unset, .unset, .unset, .unset, .unset] [(.long (((q3.toUInt64 >>> ((40 : Int32) &&& 0x3f).toInt64.toUInt64).toInt64) &&& (255 : Int64))), (.int (5 : Int32)), (.ref b1)])) _
      refine XS.l2i X21.here hx rfl (hb hby at_98) rfl ?_
      show Steps p.tables e below (T21.setTop (mkF m 99 #[.val (.int p1), .val (.int p2), .val (.long q3), .second, .val (.long q4), .second, .val (.int p5), .val (.int p6), .val (.int (p1 &&& (3 : Int32))), .val (.int ((p2 &&& (2147483647 : Int32)) % (10 : Int32))), .val (.ref b1), .unset, .unset, .unset, .unset, .unset, .unset, .unset] [(.int ((((q3.toUInt64 >>> ((40 : Int32) &&& 0x3f).toInt64.toUInt64).toInt64) &&& (255 : Int64)).toInt32)), (.int (5 : Int32)), (.ref b1)])) _
      refine XS.i2c X21.here hx rfl (hb hby at_99) rfl ?_
      exact k)
  obtain ⟨v22, hv22⟩ : ∃ z, z = (((((q3.toUInt64 >>> ((40 : Int32) &&& 0x3f).toInt64.toUInt64).toInt64) &&& (255 : Int64)).toInt32).toUInt32.toUInt16.toUInt32.toInt32) := ⟨_, rfl⟩
  have pre24 : ∀ t, Steps p.tables e below (T21.setTop (mkF m 100 #[.val (.int p1), .val (.int p2), .val (.long q3), .second, .val (.long q4), .second, .val (.int p5), .val (.int p6), .val (.int (p1 &&& (3 : Int32))), .val (.int ((p2 &&& (2147483647 : Int32)) % (10 : Int32))), .val (.ref b1), .unset, .unset, .unset, .unset, .unset, .unset, .unset] [(.int v22), (.int (5 : Int32)), (.ref b1)])) t → Steps p.tables e below (s₁.setTop (entryFrame m #[(.int p1), (.int p2), (.long q3), (.long q4), (.int p5), (.int p6)] maxLocals)) t := fun t k => pre23 t (by rw [← hv22]; exact k)
  have hb_v22 : ¬ v22 < 0 ∧ ¬ (255 : Int32) < v22 := by rw [hv22]; exact own_cL _
  obtain ⟨cl25, Ar25, q25, S25, N25_, H25, G25⟩ := id V21
  obtain ⟨T25, h25, X25, e25, W25, st25⟩ := stC X21 hx hZ e21 Ar25 (j := (5 : Int32)) (inb_of S25 ⟨by decide, by decide⟩) (g := (mkF m 100 #[.val (.int p1), .val (.int p2), .val (.long q3), .second, .val (.long q4), .second, .val (.int p5), .val (.int p6), .val (.int (p1 &&& (3 : Int32))), .val (.int ((p2 &&& (2147483647 : Int32)) % (10 : Int32))), .val (.ref b1), .unset, .unset, .unset, .unset, .unset, .unset, .unset] [(.int v22), (.int (5 : Int32)), (.ref b1)])) rfl rfl (hb hby at_100)
  have V25 := Arv.set Ar25 q25 S25 N25_ H25 G25 (fits_nar_char _) W25 5 rfl (Nat.le_of_ble_eq_true rfl)
  have K25 : Keep h0 h25 [] := (K21).wr W25 (Or.inr sz_b1)
  have N25 := Fr.snoc X25 N21 g_b1
  have pre27 : ∀ t, Steps p.tables e below (T25.setTop (mkF m 115 #[.val (.int p1), .val (.int p2), .val (.long q3), .second, .val (.long q4), .second, .val (.int p5), .val (.int p6), .val (.int (p1 &&& (3 : Int32))), .val (.int ((p2 &&& (2147483647 : Int32)) % (10 : Int32))), .val (.ref b1), .unset, .unset, .unset, .unset, .unset, .unset, .unset] [(.int (((((q3.toUInt64 >>> ((48 : Int32) &&& 0x3f).toInt64.toUInt64).toInt64) &&& (255 : Int64)).toInt32).toUInt32.toUInt16.toUInt32.toInt32)), (.int (6 : Int32)), (.ref b1)])) t → Steps p.tables e below (s₁.setTop (entryFrame m #[(.int p1), (.int p2), (.long q3), (.long q4), (.int p5), (.int p6)] maxLocals)) t := fun t k => pre24 t (by
      show Steps p.tables e below (T21.setTop (mkF m 100 #[.val (.int p1), .val (.int p2), .val (.long q3), .second, .val (.long q4), .second, .val (.int p5), .val (.int p6), .val (.int (p1 &&& (3 : Int32))), .val (.int ((p2 &&& (2147483647 : Int32)) % (10 : Int32))), .val (.ref b1), .unset, .unset, .unset, .unset, .unset, .unset, .unset] [(.int v22), (.int (5 : Int32)), (.ref b1)])) _
      refine st25 _ ?_
      show Steps p.tables e below (T25.setTop (mkF m 101 #[.val (.int p1), .val (.int p2), .val (.long q3), .second, .val (.long q4), .second, .val (.int p5), .val (.int p6), .val (.int (p1 &&& (3 : Int32))), .val (.int ((p2 &&& (2147483647 : Int32)) % (10 : Int32))), .val (.ref b1), .unset, .unset, .unset, .unset, .unset, .unset, .unset] [])) _
      refine XS.aload X25.here hx rfl (hb hby at_101) rfl rfl ?_
      show Steps p.tables e below (T25.setTop (mkF m 103 #[.val (.int p1), .val (.int p2), .val (.long q3), .second, .val (.long q4), .second, .val (.int p5), .val (.int p6), .val (.int (p1 &&& (3 : Int32))), .val (.int ((p2 &&& (2147483647 : Int32)) % (10 : Int32))), .val (.ref b1), .unset, .unset, .unset, .unset, .unset, .unset, .unset] [(.ref b1)])) _
      refine XS.bipush X25.here hx rfl (hb hby at_103) ?_
      show Steps p.tables e below (T25.setTop (mkF m 105 #[.val (.int p1), .val (.int p2), .val (.long q3), .second, .val (.long q4), .second, .val (.int p5), .val (.int p6), .val (.int (p1 &&& (3 : Int32))), .val (.int ((p2 &&& (2147483647 : Int32)) % (10 : Int32))), .val (.ref b1), .unset, .unset, .unset, .unset, .unset, .unset, .unset] [(.int (6 : Int32)), (.ref b1)])) _
      refine XS.lloadN X25.here hx rfl (hb hby at_105) rfl ?_
      show Steps p.tables e below (T25.setTop (mkF m 106 #[.val (.int p1), .val (.int p2), .val (.long q3), .second, .val (.long q4), .second, .val (.int p5), .val (.int p6), .val (.int (p1 &&& (3 : Int32))), .val (.int ((p2 &&& (2147483647 : Int32)) % (10 : Int32))), .val (.ref b1), .unset, .unset, .unset, .unset, .unset, .unset, .unset] [(.long q3), (.int (6 : Int32)), (.ref b1)])) _
      refine XS.bipush X25.here hx rfl (hb hby at_106) ?_
      show Steps p.tables e below (T25.setTop (mkF m 108 #[.val (.int p1), .val (.int p2), .val (.long q3), .second, .val (.long q4), .second, .val (.int p5), .val (.int p6), .val (.int (p1 &&& (3 : Int32))), .val (.int ((p2 &&& (2147483647 : Int32)) % (10 : Int32))), .val (.ref b1), .unset, .unset, .unset, .unset, .unset, .unset, .unset] [(.int (48 : Int32)), (.long q3), (.int (6 : Int32)), (.ref b1)])) _
      refine XS.lushr X25.here hx rfl (hb hby at_108) rfl ?_
      show Steps p.tables e below (T25.setTop (mkF m 109 #[.val (.int p1), .val (.int p2), .val (.long q3), .second, .val (.long q4), .second, .val (.int p5), .val (.int p6), .val (.int (p1 &&& (3 : Int32))), .val (.int ((p2 &&& (2147483647 : Int32)) % (10 : Int32))), .val (.ref b1), .unset, .unset, .unset, .unset, .unset, .unset, .unset] [(.long ((q3.toUInt64 >>> ((48 : Int32) &&& 0x3f).toInt64.toUInt64).toInt64)), (.int (6 : Int32)), (.ref b1)])) _
      refine X25.ldc2Long hx hown (mvT hZ (hw _ (List.mem_of_getElem? (i := 2) rfl))) (g := (mkF m 109 #[.val (.int p1), .val (.int p2), .val (.long q3), .second, .val (.long q4), .second, .val (.int p5), .val (.int p6), .val (.int (p1 &&& (3 : Int32))), .val (.int ((p2 &&& (2147483647 : Int32)) % (10 : Int32))), .val (.ref b1), .unset, .unset, .unset, .unset, .unset, .unset, .unset] [(.long ((q3.toUInt64 >>> ((48 : Int32) &&& 0x3f).toInt64.toUInt64).toInt64)), (.int (6 : Int32)), (.ref b1)])) rfl (hb hby at_109) _ ?_
      show Steps p.tables e below (T25.setTop (mkF m 112 #[.val (.int p1), .val (.int p2), .val (.long q3), .second, .val (.long q4), .second, .val (.int p5), .val (.int p6), .val (.int (p1 &&& (3 : Int32))), .val (.int ((p2 &&& (2147483647 : Int32)) % (10 : Int32))), .val (.ref b1), .unset, .unset, .unset, .unset, .unset, .unset, .unset] [(.long (255 : Int64)), (.long ((q3.toUInt64 >>> ((48 : Int32) &&& 0x3f).toInt64.toUInt64).toInt64)), (.int (6 : Int32)), (.ref b1)])) _
      refine XS.land X25.here hx rfl (hb hby at_112) rfl ?_
      show Steps p.tables e below (T25.setTop (mkF m 113 #[.val (.int p1), .val (.int p2), .val (.long q3), .second, .val (.long q4), .second, .val (.int p5), .val (.int p6), .val (.int (p1 &&& (3 : Int32))), .val (.int ((p2 &&& (2147483647 : Int32)) % (10 : Int32))), .val (.ref b1), .unset, .unset, .unset, .unset, .unset, .unset, .unset] [(.long (((q3.toUInt64 >>> ((48 : Int32) &&& 0x3f).toInt64.toUInt64).toInt64) &&& (255 : Int64))), (.int (6 : Int32)), (.ref b1)])) _
      refine XS.l2i X25.here hx rfl (hb hby at_113) rfl ?_
      show Steps p.tables e below (T25.setTop (mkF m 114 #[.val (.int p1), .val (.int p2), .val (.long q3), .second, .val (.long q4), .second, .val (.int p5), .val (.int p6), .val (.int (p1 &&& (3 : Int32))), .val (.int ((p2 &&& (2147483647 : Int32)) % (10 : Int32))), .val (.ref b1), .unset, .unset, .unset, .unset, .unset, .unset, .unset] [(.int ((((q3.toUInt64 >>> ((48 : Int32) &&& 0x3f).toInt64.toUInt64).toInt64) &&& (255 : Int64)).toInt32)), (.int (6 : Int32)), (.ref b1)])) _
      refine XS.i2c X25.here hx rfl (hb hby at_114) rfl ?_
      exact k)
  obtain ⟨v26, hv26⟩ : ∃ z, z = (((((q3.toUInt64 >>> ((48 : Int32) &&& 0x3f).toInt64.toUInt64).toInt64) &&& (255 : Int64)).toInt32).toUInt32.toUInt16.toUInt32.toInt32) := ⟨_, rfl⟩
  have pre28 : ∀ t, Steps p.tables e below (T25.setTop (mkF m 115 #[.val (.int p1), .val (.int p2), .val (.long q3), .second, .val (.long q4), .second, .val (.int p5), .val (.int p6), .val (.int (p1 &&& (3 : Int32))), .val (.int ((p2 &&& (2147483647 : Int32)) % (10 : Int32))), .val (.ref b1), .unset, .unset, .unset, .unset, .unset, .unset, .unset] [(.int v26), (.int (6 : Int32)), (.ref b1)])) t → Steps p.tables e below (s₁.setTop (entryFrame m #[(.int p1), (.int p2), (.long q3), (.long q4), (.int p5), (.int p6)] maxLocals)) t := fun t k => pre27 t (by rw [← hv26]; exact k)
  have hb_v26 : ¬ v26 < 0 ∧ ¬ (255 : Int32) < v26 := by rw [hv26]; exact own_cL _
  obtain ⟨cl29, Ar29, q29, S29, N29_, H29, G29⟩ := id V25
  obtain ⟨T29, h29, X29, e29, W29, st29⟩ := stC X25 hx hZ e25 Ar29 (j := (6 : Int32)) (inb_of S29 ⟨by decide, by decide⟩) (g := (mkF m 115 #[.val (.int p1), .val (.int p2), .val (.long q3), .second, .val (.long q4), .second, .val (.int p5), .val (.int p6), .val (.int (p1 &&& (3 : Int32))), .val (.int ((p2 &&& (2147483647 : Int32)) % (10 : Int32))), .val (.ref b1), .unset, .unset, .unset, .unset, .unset, .unset, .unset] [(.int v26), (.int (6 : Int32)), (.ref b1)])) rfl rfl (hb hby at_115)
  have V29 := Arv.set Ar29 q29 S29 N29_ H29 G29 (fits_nar_char _) W29 6 rfl (Nat.le_of_ble_eq_true rfl)
  have K29 : Keep h0 h29 [] := (K25).wr W29 (Or.inr sz_b1)
  have N29 := Fr.snoc X29 N25 g_b1
  have pre31 : ∀ t, Steps p.tables e below (T29.setTop (mkF m 130 #[.val (.int p1), .val (.int p2), .val (.long q3), .second, .val (.long q4), .second, .val (.int p5), .val (.int p6), .val (.int (p1 &&& (3 : Int32))), .val (.int ((p2 &&& (2147483647 : Int32)) % (10 : Int32))), .val (.ref b1), .unset, .unset, .unset, .unset, .unset, .unset, .unset] [(.int (((((q3.toUInt64 >>> ((56 : Int32) &&& 0x3f).toInt64.toUInt64).toInt64) &&& (255 : Int64)).toInt32).toUInt32.toUInt16.toUInt32.toInt32)), (.int (7 : Int32)), (.ref b1)])) t → Steps p.tables e below (s₁.setTop (entryFrame m #[(.int p1), (.int p2), (.long q3), (.long q4), (.int p5), (.int p6)] maxLocals)) t := fun t k => pre28 t (by
      show Steps p.tables e below (T25.setTop (mkF m 115 #[.val (.int p1), .val (.int p2), .val (.long q3), .second, .val (.long q4), .second, .val (.int p5), .val (.int p6), .val (.int (p1 &&& (3 : Int32))), .val (.int ((p2 &&& (2147483647 : Int32)) % (10 : Int32))), .val (.ref b1), .unset, .unset, .unset, .unset, .unset, .unset, .unset] [(.int v26), (.int (6 : Int32)), (.ref b1)])) _
      refine st29 _ ?_
      show Steps p.tables e below (T29.setTop (mkF m 116 #[.val (.int p1), .val (.int p2), .val (.long q3), .second, .val (.long q4), .second, .val (.int p5), .val (.int p6), .val (.int (p1 &&& (3 : Int32))), .val (.int ((p2 &&& (2147483647 : Int32)) % (10 : Int32))), .val (.ref b1), .unset, .unset, .unset, .unset, .unset, .unset, .unset] [])) _
      refine XS.aload X29.here hx rfl (hb hby at_116) rfl rfl ?_
      show Steps p.tables e below (T29.setTop (mkF m 118 #[.val (.int p1), .val (.int p2), .val (.long q3), .second, .val (.long q4), .second, .val (.int p5), .val (.int p6), .val (.int (p1 &&& (3 : Int32))), .val (.int ((p2 &&& (2147483647 : Int32)) % (10 : Int32))), .val (.ref b1), .unset, .unset, .unset, .unset, .unset, .unset, .unset] [(.ref b1)])) _
      refine XS.bipush X29.here hx rfl (hb hby at_118) ?_
      show Steps p.tables e below (T29.setTop (mkF m 120 #[.val (.int p1), .val (.int p2), .val (.long q3), .second, .val (.long q4), .second, .val (.int p5), .val (.int p6), .val (.int (p1 &&& (3 : Int32))), .val (.int ((p2 &&& (2147483647 : Int32)) % (10 : Int32))), .val (.ref b1), .unset, .unset, .unset, .unset, .unset, .unset, .unset] [(.int (7 : Int32)), (.ref b1)])) _
      refine XS.lloadN X29.here hx rfl (hb hby at_120) rfl ?_
      show Steps p.tables e below (T29.setTop (mkF m 121 #[.val (.int p1), .val (.int p2), .val (.long q3), .second, .val (.long q4), .second, .val (.int p5), .val (.int p6), .val (.int (p1 &&& (3 : Int32))), .val (.int ((p2 &&& (2147483647 : Int32)) % (10 : Int32))), .val (.ref b1), .unset, .unset, .unset, .unset, .unset, .unset, .unset] [(.long q3), (.int (7 : Int32)), (.ref b1)])) _
      refine XS.bipush X29.here hx rfl (hb hby at_121) ?_
      show Steps p.tables e below (T29.setTop (mkF m 123 #[.val (.int p1), .val (.int p2), .val (.long q3), .second, .val (.long q4), .second, .val (.int p5), .val (.int p6), .val (.int (p1 &&& (3 : Int32))), .val (.int ((p2 &&& (2147483647 : Int32)) % (10 : Int32))), .val (.ref b1), .unset, .unset, .unset, .unset, .unset, .unset, .unset] [(.int (56 : Int32)), (.long q3), (.int (7 : Int32)), (.ref b1)])) _
      refine XS.lushr X29.here hx rfl (hb hby at_123) rfl ?_
      show Steps p.tables e below (T29.setTop (mkF m 124 #[.val (.int p1), .val (.int p2), .val (.long q3), .second, .val (.long q4), .second, .val (.int p5), .val (.int p6), .val (.int (p1 &&& (3 : Int32))), .val (.int ((p2 &&& (2147483647 : Int32)) % (10 : Int32))), .val (.ref b1), .unset, .unset, .unset, .unset, .unset, .unset, .unset] [(.long ((q3.toUInt64 >>> ((56 : Int32) &&& 0x3f).toInt64.toUInt64).toInt64)), (.int (7 : Int32)), (.ref b1)])) _
      refine X29.ldc2Long hx hown (mvT hZ (hw _ (List.mem_of_getElem? (i := 2) rfl))) (g := (mkF m 124 #[.val (.int p1), .val (.int p2), .val (.long q3), .second, .val (.long q4), .second, .val (.int p5), .val (.int p6), .val (.int (p1 &&& (3 : Int32))), .val (.int ((p2 &&& (2147483647 : Int32)) % (10 : Int32))), .val (.ref b1), .unset, .unset, .unset, .unset, .unset, .unset, .unset] [(.long ((q3.toUInt64 >>> ((56 : Int32) &&& 0x3f).toInt64.toUInt64).toInt64)), (.int (7 : Int32)), (.ref b1)])) rfl (hb hby at_124) _ ?_
      show Steps p.tables e below (T29.setTop (mkF m 127 #[.val (.int p1), .val (.int p2), .val (.long q3), .second, .val (.long q4), .second, .val (.int p5), .val (.int p6), .val (.int (p1 &&& (3 : Int32))), .val (.int ((p2 &&& (2147483647 : Int32)) % (10 : Int32))), .val (.ref b1), .unset, .unset, .unset, .unset, .unset, .unset, .unset] [(.long (255 : Int64)), (.long ((q3.toUInt64 >>> ((56 : Int32) &&& 0x3f).toInt64.toUInt64).toInt64)), (.int (7 : Int32)), (.ref b1)])) _
      refine XS.land X29.here hx rfl (hb hby at_127) rfl ?_
      show Steps p.tables e below (T29.setTop (mkF m 128 #[.val (.int p1), .val (.int p2), .val (.long q3), .second, .val (.long q4), .second, .val (.int p5), .val (.int p6), .val (.int (p1 &&& (3 : Int32))), .val (.int ((p2 &&& (2147483647 : Int32)) % (10 : Int32))), .val (.ref b1), .unset, .unset, .unset, .unset, .unset, .unset, .unset] [(.long (((q3.toUInt64 >>> ((56 : Int32) &&& 0x3f).toInt64.toUInt64).toInt64) &&& (255 : Int64))), (.int (7 : Int32)), (.ref b1)])) _
      refine XS.l2i X29.here hx rfl (hb hby at_128) rfl ?_
      show Steps p.tables e below (T29.setTop (mkF m 129 #[.val (.int p1), .val (.int p2), .val (.long q3), .second, .val (.long q4), .second, .val (.int p5), .val (.int p6), .val (.int (p1 &&& (3 : Int32))), .val (.int ((p2 &&& (2147483647 : Int32)) % (10 : Int32))), .val (.ref b1), .unset, .unset, .unset, .unset, .unset, .unset, .unset] [(.int ((((q3.toUInt64 >>> ((56 : Int32) &&& 0x3f).toInt64.toUInt64).toInt64) &&& (255 : Int64)).toInt32)), (.int (7 : Int32)), (.ref b1)])) _
      refine XS.i2c X29.here hx rfl (hb hby at_129) rfl ?_
      exact k)
  obtain ⟨v30, hv30⟩ : ∃ z, z = (((((q3.toUInt64 >>> ((56 : Int32) &&& 0x3f).toInt64.toUInt64).toInt64) &&& (255 : Int64)).toInt32).toUInt32.toUInt16.toUInt32.toInt32) := ⟨_, rfl⟩
  have pre32 : ∀ t, Steps p.tables e below (T29.setTop (mkF m 130 #[.val (.int p1), .val (.int p2), .val (.long q3), .second, .val (.long q4), .second, .val (.int p5), .val (.int p6), .val (.int (p1 &&& (3 : Int32))), .val (.int ((p2 &&& (2147483647 : Int32)) % (10 : Int32))), .val (.ref b1), .unset, .unset, .unset, .unset, .unset, .unset, .unset] [(.int v30), (.int (7 : Int32)), (.ref b1)])) t → Steps p.tables e below (s₁.setTop (entryFrame m #[(.int p1), (.int p2), (.long q3), (.long q4), (.int p5), (.int p6)] maxLocals)) t := fun t k => pre31 t (by rw [← hv30]; exact k)
  have hb_v30 : ¬ v30 < 0 ∧ ¬ (255 : Int32) < v30 := by rw [hv30]; exact own_cL _
  obtain ⟨cl33, Ar33, q33, S33, N33_, H33, G33⟩ := id V29
  obtain ⟨T33, h33, X33, e33, W33, st33⟩ := stC X29 hx hZ e29 Ar33 (j := (7 : Int32)) (inb_of S33 ⟨by decide, by decide⟩) (g := (mkF m 130 #[.val (.int p1), .val (.int p2), .val (.long q3), .second, .val (.long q4), .second, .val (.int p5), .val (.int p6), .val (.int (p1 &&& (3 : Int32))), .val (.int ((p2 &&& (2147483647 : Int32)) % (10 : Int32))), .val (.ref b1), .unset, .unset, .unset, .unset, .unset, .unset, .unset] [(.int v30), (.int (7 : Int32)), (.ref b1)])) rfl rfl (hb hby at_130)
  have V33 := Arv.set Ar33 q33 S33 N33_ H33 G33 (fits_nar_char _) W33 7 rfl (Nat.le_of_ble_eq_true rfl)
  have K33 : Keep h0 h33 [] := (K29).wr W33 (Or.inr sz_b1)
  have N33 := Fr.snoc X33 N29 g_b1
  have pre35 : ∀ t, Steps p.tables e below (T33.setTop (mkF m 143 #[.val (.int p1), .val (.int p2), .val (.long q3), .second, .val (.long q4), .second, .val (.int p5), .val (.int p6), .val (.int (p1 &&& (3 : Int32))), .val (.int ((p2 &&& (2147483647 : Int32)) % (10 : Int32))), .val (.ref b1), .unset, .unset, .unset, .unset, .unset, .unset, .unset] [(.int (((q4 &&& (255 : Int64)).toInt32).toUInt32.toUInt16.toUInt32.toInt32)), (.int (8 : Int32)), (.ref b1)])) t → Steps p.tables e below (s₁.setTop (entryFrame m #[(.int p1), (.int p2), (.long q3), (.long q4), (.int p5), (.int p6)] maxLocals)) t := fun t k => pre32 t (by
      show Steps p.tables e below (T29.setTop (mkF m 130 #[.val (.int p1), .val (.int p2), .val (.long q3), .second, .val (.long q4), .second, .val (.int p5), .val (.int p6), .val (.int (p1 &&& (3 : Int32))), .val (.int ((p2 &&& (2147483647 : Int32)) % (10 : Int32))), .val (.ref b1), .unset, .unset, .unset, .unset, .unset, .unset, .unset] [(.int v30), (.int (7 : Int32)), (.ref b1)])) _
      refine st33 _ ?_
      show Steps p.tables e below (T33.setTop (mkF m 131 #[.val (.int p1), .val (.int p2), .val (.long q3), .second, .val (.long q4), .second, .val (.int p5), .val (.int p6), .val (.int (p1 &&& (3 : Int32))), .val (.int ((p2 &&& (2147483647 : Int32)) % (10 : Int32))), .val (.ref b1), .unset, .unset, .unset, .unset, .unset, .unset, .unset] [])) _
      refine XS.aload X33.here hx rfl (hb hby at_131) rfl rfl ?_
      show Steps p.tables e below (T33.setTop (mkF m 133 #[.val (.int p1), .val (.int p2), .val (.long q3), .second, .val (.long q4), .second, .val (.int p5), .val (.int p6), .val (.int (p1 &&& (3 : Int32))), .val (.int ((p2 &&& (2147483647 : Int32)) % (10 : Int32))), .val (.ref b1), .unset, .unset, .unset, .unset, .unset, .unset, .unset] [(.ref b1)])) _
      refine XS.bipush X33.here hx rfl (hb hby at_133) ?_
      show Steps p.tables e below (T33.setTop (mkF m 135 #[.val (.int p1), .val (.int p2), .val (.long q3), .second, .val (.long q4), .second, .val (.int p5), .val (.int p6), .val (.int (p1 &&& (3 : Int32))), .val (.int ((p2 &&& (2147483647 : Int32)) % (10 : Int32))), .val (.ref b1), .unset, .unset, .unset, .unset, .unset, .unset, .unset] [(.int (8 : Int32)), (.ref b1)])) _
      refine XS.lload X33.here hx rfl (hb hby at_135) rfl ?_
      show Steps p.tables e below (T33.setTop (mkF m 137 #[.val (.int p1), .val (.int p2), .val (.long q3), .second, .val (.long q4), .second, .val (.int p5), .val (.int p6), .val (.int (p1 &&& (3 : Int32))), .val (.int ((p2 &&& (2147483647 : Int32)) % (10 : Int32))), .val (.ref b1), .unset, .unset, .unset, .unset, .unset, .unset, .unset] [(.long q4), (.int (8 : Int32)), (.ref b1)])) _
      refine X33.ldc2Long hx hown (mvT hZ (hw _ (List.mem_of_getElem? (i := 2) rfl))) (g := (mkF m 137 #[.val (.int p1), .val (.int p2), .val (.long q3), .second, .val (.long q4), .second, .val (.int p5), .val (.int p6), .val (.int (p1 &&& (3 : Int32))), .val (.int ((p2 &&& (2147483647 : Int32)) % (10 : Int32))), .val (.ref b1), .unset, .unset, .unset, .unset, .unset, .unset, .unset] [(.long q4), (.int (8 : Int32)), (.ref b1)])) rfl (hb hby at_137) _ ?_
      show Steps p.tables e below (T33.setTop (mkF m 140 #[.val (.int p1), .val (.int p2), .val (.long q3), .second, .val (.long q4), .second, .val (.int p5), .val (.int p6), .val (.int (p1 &&& (3 : Int32))), .val (.int ((p2 &&& (2147483647 : Int32)) % (10 : Int32))), .val (.ref b1), .unset, .unset, .unset, .unset, .unset, .unset, .unset] [(.long (255 : Int64)), (.long q4), (.int (8 : Int32)), (.ref b1)])) _
      refine XS.land X33.here hx rfl (hb hby at_140) rfl ?_
      show Steps p.tables e below (T33.setTop (mkF m 141 #[.val (.int p1), .val (.int p2), .val (.long q3), .second, .val (.long q4), .second, .val (.int p5), .val (.int p6), .val (.int (p1 &&& (3 : Int32))), .val (.int ((p2 &&& (2147483647 : Int32)) % (10 : Int32))), .val (.ref b1), .unset, .unset, .unset, .unset, .unset, .unset, .unset] [(.long (q4 &&& (255 : Int64))), (.int (8 : Int32)), (.ref b1)])) _
      refine XS.l2i X33.here hx rfl (hb hby at_141) rfl ?_
      show Steps p.tables e below (T33.setTop (mkF m 142 #[.val (.int p1), .val (.int p2), .val (.long q3), .second, .val (.long q4), .second, .val (.int p5), .val (.int p6), .val (.int (p1 &&& (3 : Int32))), .val (.int ((p2 &&& (2147483647 : Int32)) % (10 : Int32))), .val (.ref b1), .unset, .unset, .unset, .unset, .unset, .unset, .unset] [(.int ((q4 &&& (255 : Int64)).toInt32)), (.int (8 : Int32)), (.ref b1)])) _
      refine XS.i2c X33.here hx rfl (hb hby at_142) rfl ?_
      exact k)
  obtain ⟨v34, hv34⟩ : ∃ z, z = (((q4 &&& (255 : Int64)).toInt32).toUInt32.toUInt16.toUInt32.toInt32) := ⟨_, rfl⟩
  have pre36 : ∀ t, Steps p.tables e below (T33.setTop (mkF m 143 #[.val (.int p1), .val (.int p2), .val (.long q3), .second, .val (.long q4), .second, .val (.int p5), .val (.int p6), .val (.int (p1 &&& (3 : Int32))), .val (.int ((p2 &&& (2147483647 : Int32)) % (10 : Int32))), .val (.ref b1), .unset, .unset, .unset, .unset, .unset, .unset, .unset] [(.int v34), (.int (8 : Int32)), (.ref b1)])) t → Steps p.tables e below (s₁.setTop (entryFrame m #[(.int p1), (.int p2), (.long q3), (.long q4), (.int p5), (.int p6)] maxLocals)) t := fun t k => pre35 t (by rw [← hv34]; exact k)
  have hb_v34 : ¬ v34 < 0 ∧ ¬ (255 : Int32) < v34 := by rw [hv34]; exact own_cL _
  obtain ⟨cl37, Ar37, q37, S37, N37_, H37, G37⟩ := id V33
  obtain ⟨T37, h37, X37, e37, W37, st37⟩ := stC X33 hx hZ e33 Ar37 (j := (8 : Int32)) (inb_of S37 ⟨by decide, by decide⟩) (g := (mkF m 143 #[.val (.int p1), .val (.int p2), .val (.long q3), .second, .val (.long q4), .second, .val (.int p5), .val (.int p6), .val (.int (p1 &&& (3 : Int32))), .val (.int ((p2 &&& (2147483647 : Int32)) % (10 : Int32))), .val (.ref b1), .unset, .unset, .unset, .unset, .unset, .unset, .unset] [(.int v34), (.int (8 : Int32)), (.ref b1)])) rfl rfl (hb hby at_143)
  have V37 := Arv.set Ar37 q37 S37 N37_ H37 G37 (fits_nar_char _) W37 8 rfl (Nat.le_of_ble_eq_true rfl)
  have K37 : Keep h0 h37 [] := (K33).wr W37 (Or.inr sz_b1)
  have N37 := Fr.snoc X37 N33 g_b1
  have pre38 : ∀ t, Steps p.tables e below (T37.setTop (mkF m 147 #[.val (.int p1), .val (.int p2), .val (.long q3), .second, .val (.long q4), .second, .val (.int p5), .val (.int p6), .val (.int (p1 &&& (3 : Int32))), .val (.int ((p2 &&& (2147483647 : Int32)) % (10 : Int32))), .val (.ref b1), .unset, .unset, .unset, .unset, .unset, .unset, .unset] [(.int (1 : Int32)), (.int (p1 &&& (3 : Int32)))])) t → Steps p.tables e below (s₁.setTop (entryFrame m #[(.int p1), (.int p2), (.long q3), (.long q4), (.int p5), (.int p6)] maxLocals)) t := fun t k => pre36 t (by
      show Steps p.tables e below (T33.setTop (mkF m 143 #[.val (.int p1), .val (.int p2), .val (.long q3), .second, .val (.long q4), .second, .val (.int p5), .val (.int p6), .val (.int (p1 &&& (3 : Int32))), .val (.int ((p2 &&& (2147483647 : Int32)) % (10 : Int32))), .val (.ref b1), .unset, .unset, .unset, .unset, .unset, .unset, .unset] [(.int v34), (.int (8 : Int32)), (.ref b1)])) _
      refine st37 _ ?_
      show Steps p.tables e below (T37.setTop (mkF m 144 #[.val (.int p1), .val (.int p2), .val (.long q3), .second, .val (.long q4), .second, .val (.int p5), .val (.int p6), .val (.int (p1 &&& (3 : Int32))), .val (.int ((p2 &&& (2147483647 : Int32)) % (10 : Int32))), .val (.ref b1), .unset, .unset, .unset, .unset, .unset, .unset, .unset] [])) _
      refine XS.iload X37.here hx rfl (hb hby at_144) rfl ?_
      show Steps p.tables e below (T37.setTop (mkF m 146 #[.val (.int p1), .val (.int p2), .val (.long q3), .second, .val (.long q4), .second, .val (.int p5), .val (.int p6), .val (.int (p1 &&& (3 : Int32))), .val (.int ((p2 &&& (2147483647 : Int32)) % (10 : Int32))), .val (.ref b1), .unset, .unset, .unset, .unset, .unset, .unset, .unset] [(.int (p1 &&& (3 : Int32)))])) _
      refine XS.iconst X37.here hx rfl (hb hby at_146) ?_
      exact k)
  obtain ⟨T39, h39, L39, c39_0, c39_1, c39_2, c39_3, c39_4, c39_5, c39_6, c39_7, c39_8, X39, e39, N39, K39, hb_c39_0, hb_c39_1, hb_c39_2, hb_c39_3, hb_c39_4, hb_c39_5, hb_c39_6, hb_c39_7, hb_c39_8, V39, pre39⟩ : ∃ (T' : State) (h' : Heap) (L' : List Loc) (c39_0 c39_1 c39_2 c39_3 c39_4 c39_5 c39_6 c39_7 c39_8 : Int32), Stand p l e room_1 s m #[(.int p1), (.int p2), (.long q3), (.long q4), (.int p5), (.int p6)] below meth c T' L' 1 9 ∧ T'.heap = h' ∧ Fr n0 L' ∧ Keep h0 h' [] ∧ (¬ c39_0 < 0 ∧ ¬ (255 : Int32) < c39_0) ∧ (¬ c39_1 < 0 ∧ ¬ (255 : Int32) < c39_1) ∧ (¬ c39_2 < 0 ∧ ¬ (255 : Int32) < c39_2) ∧ (¬ c39_3 < 0 ∧ ¬ (255 : Int32) < c39_3) ∧ (¬ c39_4 < 0 ∧ ¬ (255 : Int32) < c39_4) ∧ (¬ c39_5 < 0 ∧ ¬ (255 : Int32) < c39_5) ∧ (¬ c39_6 < 0 ∧ ¬ (255 : Int32) < c39_6) ∧ (¬ c39_7 < 0 ∧ ¬ (255 : Int32) < c39_7) ∧ (¬ c39_8 < 0 ∧ ¬ (255 : Int32) < c39_8) ∧ Arv Z h' b1 k1 .char (9 : Int32) [.int c39_0, .int c39_1, .int c39_2, .int c39_3, .int c39_4, .int c39_5, .int c39_6, .int c39_7, .int c39_8] (.int (0 : Int32)) ∧ ∀ t, Steps p.tables e below (T'.setTop (mkF m 227 #[.val (.int p1), .val (.int p2), .val (.long q3), .second, .val (.long q4), .second, .val (.int p5), .val (.int p6), .val (.int (p1 &&& (3 : Int32))), .val (.int ((p2 &&& (2147483647 : Int32)) % (10 : Int32))), .val (.ref b1), .unset, .unset, .unset, .unset, .unset, .unset, .unset] [])) t → Steps p.tables e below (s₁.setTop (entryFrame m #[(.int p1), (.int p2), (.long q3), (.long q4), (.int p5), (.int p6)] maxLocals)) t := by
    by_cases hc40 : (p1 &&& (3 : Int32)) = (1 : Int32)
    · obtain ⟨cl41, Ar41, q41, S41, N41_, H41, G41⟩ := id V37
      obtain ⟨T41, h41, X41, e41, W41, st41⟩ := stC X37 hx hZ e37 Ar41 (j := (0 : Int32)) (inb_of S41 ⟨by decide, by decide⟩) (g := (mkF m 155 #[.val (.int p1), .val (.int p2), .val (.long q3), .second, .val (.long q4), .second, .val (.int p5), .val (.int p6), .val (.int (p1 &&& (3 : Int32))), .val (.int ((p2 &&& (2147483647 : Int32)) % (10 : Int32))), .val (.ref b1), .unset, .unset, .unset, .unset, .unset, .unset, .unset] [(.int (99 : Int32)), (.int (0 : Int32)), (.ref b1)])) rfl rfl (hb hby at_155)
      have V41 := Arv.set Ar41 q41 S41 N41_ H41 G41 (fits_nar_char _) W41 0 rfl (Nat.le_of_ble_eq_true rfl)
      have K41 : Keep h0 h41 [] := (K37).wr W41 (Or.inr sz_b1)
      have N41 := Fr.snoc X41 N37 g_b1
      obtain ⟨cl42, Ar42, q42, S42, N42_, H42, G42⟩ := id V41
      obtain ⟨T42, h42, X42, e42, W42, st42⟩ := stC X41 hx hZ e41 Ar42 (j := (1 : Int32)) (inb_of S42 ⟨by decide, by decide⟩) (g := (mkF m 161 #[.val (.int p1), .val (.int p2), .val (.long q3), .second, .val (.long q4), .second, .val (.int p5), .val (.int p6), .val (.int (p1 &&& (3 : Int32))), .val (.int ((p2 &&& (2147483647 : Int32)) % (10 : Int32))), .val (.ref b1), .unset, .unset, .unset, .unset, .unset, .unset, .unset] [(.int (115 : Int32)), (.int (1 : Int32)), (.ref b1)])) rfl rfl (hb hby at_161)
      have V42 := Arv.set Ar42 q42 S42 N42_ H42 G42 (fits_nar_char _) W42 1 rfl (Nat.le_of_ble_eq_true rfl)
      have K42 : Keep h0 h42 [] := (K41).wr W42 (Or.inr sz_b1)
      have N42 := Fr.snoc X42 N41 g_b1
      obtain ⟨cl43, Ar43, q43, S43, N43_, H43, G43⟩ := id V42
      obtain ⟨T43, h43, X43, e43, W43, st43⟩ := stC X42 hx hZ e42 Ar43 (j := (2 : Int32)) (inb_of S43 ⟨by decide, by decide⟩) (g := (mkF m 167 #[.val (.int p1), .val (.int p2), .val (.long q3), .second, .val (.long q4), .second, .val (.int p5), .val (.int p6), .val (.int (p1 &&& (3 : Int32))), .val (.int ((p2 &&& (2147483647 : Int32)) % (10 : Int32))), .val (.ref b1), .unset, .unset, .unset, .unset, .unset, .unset, .unset] [(.int (118 : Int32)), (.int (2 : Int32)), (.ref b1)])) rfl rfl (hb hby at_167)
      have V43 := Arv.set Ar43 q43 S43 N43_ H43 G43 (fits_nar_char _) W43 2 rfl (Nat.le_of_ble_eq_true rfl)
      have K43 : Keep h0 h43 [] := (K42).wr W43 (Or.inr sz_b1)
      have N43 := Fr.snoc X43 N42 g_b1
      have pre44 : ∀ t, Steps p.tables e below (T43.setTop (mkF m 227 #[.val (.int p1), .val (.int p2), .val (.long q3), .second, .val (.long q4), .second, .val (.int p5), .val (.int p6), .val (.int (p1 &&& (3 : Int32))), .val (.int ((p2 &&& (2147483647 : Int32)) % (10 : Int32))), .val (.ref b1), .unset, .unset, .unset, .unset, .unset, .unset, .unset] [])) t → Steps p.tables e below (s₁.setTop (entryFrame m #[(.int p1), (.int p2), (.long q3), (.long q4), (.int p5), (.int p6)] maxLocals)) t := fun t k => pre38 t (by
          show Steps p.tables e below (T37.setTop (mkF m 147 #[.val (.int p1), .val (.int p2), .val (.long q3), .second, .val (.long q4), .second, .val (.int p5), .val (.int p6), .val (.int (p1 &&& (3 : Int32))), .val (.int ((p2 &&& (2147483647 : Int32)) % (10 : Int32))), .val (.ref b1), .unset, .unset, .unset, .unset, .unset, .unset, .unset] [(.int (1 : Int32)), (.int (p1 &&& (3 : Int32)))])) _
          refine XS.icmpNo X37.here hx rfl (hb hby at_147) rfl (teq hc40).2 ?_
          show Steps p.tables e below (T37.setTop (mkF m 150 #[.val (.int p1), .val (.int p2), .val (.long q3), .second, .val (.long q4), .second, .val (.int p5), .val (.int p6), .val (.int (p1 &&& (3 : Int32))), .val (.int ((p2 &&& (2147483647 : Int32)) % (10 : Int32))), .val (.ref b1), .unset, .unset, .unset, .unset, .unset, .unset, .unset] [])) _
          refine XS.aload X37.here hx rfl (hb hby at_150) rfl rfl ?_
          show Steps p.tables e below (T37.setTop (mkF m 152 #[.val (.int p1), .val (.int p2), .val (.long q3), .second, .val (.long q4), .second, .val (.int p5), .val (.int p6), .val (.int (p1 &&& (3 : Int32))), .val (.int ((p2 &&& (2147483647 : Int32)) % (10 : Int32))), .val (.ref b1), .unset, .unset, .unset, .unset, .unset, .unset, .unset] [(.ref b1)])) _
          refine XS.iconst X37.here hx rfl (hb hby at_152) ?_
          show Steps p.tables e below (T37.setTop (mkF m 153 #[.val (.int p1), .val (.int p2), .val (.long q3), .second, .val (.long q4), .second, .val (.int p5), .val (.int p6), .val (.int (p1 &&& (3 : Int32))), .val (.int ((p2 &&& (2147483647 : Int32)) % (10 : Int32))), .val (.ref b1), .unset, .unset, .unset, .unset, .unset, .unset, .unset] [(.int (0 : Int32)), (.ref b1)])) _
          refine XS.bipush X37.here hx rfl (hb hby at_153) ?_
          show Steps p.tables e below (T37.setTop (mkF m 155 #[.val (.int p1), .val (.int p2), .val (.long q3), .second, .val (.long q4), .second, .val (.int p5), .val (.int p6), .val (.int (p1 &&& (3 : Int32))), .val (.int ((p2 &&& (2147483647 : Int32)) % (10 : Int32))), .val (.ref b1), .unset, .unset, .unset, .unset, .unset, .unset, .unset] [(.int (99 : Int32)), (.int (0 : Int32)), (.ref b1)])) _
          refine st41 _ ?_
          show Steps p.tables e below (T41.setTop (mkF m 156 #[.val (.int p1), .val (.int p2), .val (.long q3), .second, .val (.long q4), .second, .val (.int p5), .val (.int p6), .val (.int (p1 &&& (3 : Int32))), .val (.int ((p2 &&& (2147483647 : Int32)) % (10 : Int32))), .val (.ref b1), .unset, .unset, .unset, .unset, .unset, .unset, .unset] [])) _
          refine XS.aload X41.here hx rfl (hb hby at_156) rfl rfl ?_
          show Steps p.tables e below (T41.setTop (mkF m 158 #[.val (.int p1), .val (.int p2), .val (.long q3), .second, .val (.long q4), .second, .val (.int p5), .val (.int p6), .val (.int (p1 &&& (3 : Int32))), .val (.int ((p2 &&& (2147483647 : Int32)) % (10 : Int32))), .val (.ref b1), .unset, .unset, .unset, .unset, .unset, .unset, .unset] [(.ref b1)])) _
          refine XS.iconst X41.here hx rfl (hb hby at_158) ?_
          show Steps p.tables e below (T41.setTop (mkF m 159 #[.val (.int p1), .val (.int p2), .val (.long q3), .second, .val (.long q4), .second, .val (.int p5), .val (.int p6), .val (.int (p1 &&& (3 : Int32))), .val (.int ((p2 &&& (2147483647 : Int32)) % (10 : Int32))), .val (.ref b1), .unset, .unset, .unset, .unset, .unset, .unset, .unset] [(.int (1 : Int32)), (.ref b1)])) _
          refine XS.bipush X41.here hx rfl (hb hby at_159) ?_
          show Steps p.tables e below (T41.setTop (mkF m 161 #[.val (.int p1), .val (.int p2), .val (.long q3), .second, .val (.long q4), .second, .val (.int p5), .val (.int p6), .val (.int (p1 &&& (3 : Int32))), .val (.int ((p2 &&& (2147483647 : Int32)) % (10 : Int32))), .val (.ref b1), .unset, .unset, .unset, .unset, .unset, .unset, .unset] [(.int (115 : Int32)), (.int (1 : Int32)), (.ref b1)])) _
          refine st42 _ ?_
          show Steps p.tables e below (T42.setTop (mkF m 162 #[.val (.int p1), .val (.int p2), .val (.long q3), .second, .val (.long q4), .second, .val (.int p5), .val (.int p6), .val (.int (p1 &&& (3 : Int32))), .val (.int ((p2 &&& (2147483647 : Int32)) % (10 : Int32))), .val (.ref b1), .unset, .unset, .unset, .unset, .unset, .unset, .unset] [])) _
          refine XS.aload X42.here hx rfl (hb hby at_162) rfl rfl ?_
          show Steps p.tables e below (T42.setTop (mkF m 164 #[.val (.int p1), .val (.int p2), .val (.long q3), .second, .val (.long q4), .second, .val (.int p5), .val (.int p6), .val (.int (p1 &&& (3 : Int32))), .val (.int ((p2 &&& (2147483647 : Int32)) % (10 : Int32))), .val (.ref b1), .unset, .unset, .unset, .unset, .unset, .unset, .unset] [(.ref b1)])) _
          refine XS.iconst X42.here hx rfl (hb hby at_164) ?_
          show Steps p.tables e below (T42.setTop (mkF m 165 #[.val (.int p1), .val (.int p2), .val (.long q3), .second, .val (.long q4), .second, .val (.int p5), .val (.int p6), .val (.int (p1 &&& (3 : Int32))), .val (.int ((p2 &&& (2147483647 : Int32)) % (10 : Int32))), .val (.ref b1), .unset, .unset, .unset, .unset, .unset, .unset, .unset] [(.int (2 : Int32)), (.ref b1)])) _
          refine XS.bipush X42.here hx rfl (hb hby at_165) ?_
          show Steps p.tables e below (T42.setTop (mkF m 167 #[.val (.int p1), .val (.int p2), .val (.long q3), .second, .val (.long q4), .second, .val (.int p5), .val (.int p6), .val (.int (p1 &&& (3 : Int32))), .val (.int ((p2 &&& (2147483647 : Int32)) % (10 : Int32))), .val (.ref b1), .unset, .unset, .unset, .unset, .unset, .unset, .unset] [(.int (118 : Int32)), (.int (2 : Int32)), (.ref b1)])) _
          refine st43 _ ?_
          show Steps p.tables e below (T43.setTop (mkF m 168 #[.val (.int p1), .val (.int p2), .val (.long q3), .second, .val (.long q4), .second, .val (.int p5), .val (.int p6), .val (.int (p1 &&& (3 : Int32))), .val (.int ((p2 &&& (2147483647 : Int32)) % (10 : Int32))), .val (.ref b1), .unset, .unset, .unset, .unset, .unset, .unset, .unset] [])) _
          refine XS.goto X43.here hx rfl (pc0 := 168) (pc' := 227) rfl (hb hby at_168) (by decide) (by decide) ?_
          exact k)
      exact ⟨T43, h43, _, (99 : Int32), (115 : Int32), (118 : Int32), (nar .char v14), (nar .char v18), (nar .char v22), (nar .char v26), (nar .char v30), (nar .char v34), X43, e43, N43, K43, (by decide), (by decide), (by decide), (own_narb hb_v14), (own_narb hb_v18), (own_narb hb_v22), (own_narb hb_v26), (own_narb hb_v30), (own_narb hb_v34), V43, pre44⟩
    · have pre45 : ∀ t, Steps p.tables e below (T37.setTop (mkF m 174 #[.val (.int p1), .val (.int p2), .val (.long q3), .second, .val (.long q4), .second, .val (.int p5), .val (.int p6), .val (.int (p1 &&& (3 : Int32))), .val (.int ((p2 &&& (2147483647 : Int32)) % (10 : Int32))), .val (.ref b1), .unset, .unset, .unset, .unset, .unset, .unset, .unset] [(.int (2 : Int32)), (.int (p1 &&& (3 : Int32)))])) t → Steps p.tables e below (s₁.setTop (entryFrame m #[(.int p1), (.int p2), (.long q3), (.long q4), (.int p5), (.int p6)] maxLocals)) t := fun t k => pre38 t (by
          show Steps p.tables e below (T37.setTop (mkF m 147 #[.val (.int p1), .val (.int p2), .val (.long q3), .second, .val (.long q4), .second, .val (.int p5), .val (.int p6), .val (.int (p1 &&& (3 : Int32))), .val (.int ((p2 &&& (2147483647 : Int32)) % (10 : Int32))), .val (.ref b1), .unset, .unset, .unset, .unset, .unset, .unset, .unset] [(.int (1 : Int32)), (.int (p1 &&& (3 : Int32)))])) _
          refine XS.icmpYes X37.here hx rfl (pc0 := 147) (pc' := 171) rfl (hb hby at_147) rfl (feq hc40).2 (by decide) (by decide) ?_
          show Steps p.tables e below (T37.setTop (mkF m 171 #[.val (.int p1), .val (.int p2), .val (.long q3), .second, .val (.long q4), .second, .val (.int p5), .val (.int p6), .val (.int (p1 &&& (3 : Int32))), .val (.int ((p2 &&& (2147483647 : Int32)) % (10 : Int32))), .val (.ref b1), .unset, .unset, .unset, .unset, .unset, .unset, .unset] [])) _
          refine XS.iload X37.here hx rfl (hb hby at_171) rfl ?_
          show Steps p.tables e below (T37.setTop (mkF m 173 #[.val (.int p1), .val (.int p2), .val (.long q3), .second, .val (.long q4), .second, .val (.int p5), .val (.int p6), .val (.int (p1 &&& (3 : Int32))), .val (.int ((p2 &&& (2147483647 : Int32)) % (10 : Int32))), .val (.ref b1), .unset, .unset, .unset, .unset, .unset, .unset, .unset] [(.int (p1 &&& (3 : Int32)))])) _
          refine XS.iconst X37.here hx rfl (hb hby at_173) ?_
          exact k)
      by_cases hc46 : (p1 &&& (3 : Int32)) = (2 : Int32)
      · obtain ⟨cl47, Ar47, q47, S47, N47_, H47, G47⟩ := id V37
        obtain ⟨T47, h47, X47, e47, W47, st47⟩ := stC X37 hx hZ e37 Ar47 (j := (0 : Int32)) (inb_of S47 ⟨by decide, by decide⟩) (g := (mkF m 182 #[.val (.int p1), .val (.int p2), .val (.long q3), .second, .val (.long q4), .second, .val (.int p5), .val (.int p6), .val (.int (p1 &&& (3 : Int32))), .val (.int ((p2 &&& (2147483647 : Int32)) % (10 : Int32))), .val (.ref b1), .unset, .unset, .unset, .unset, .unset, .unset, .unset] [(.int (99 : Int32)), (.int (0 : Int32)), (.ref b1)])) rfl rfl (hb hby at_182)
        have V47 := Arv.set Ar47 q47 S47 N47_ H47 G47 (fits_nar_char _) W47 0 rfl (Nat.le_of_ble_eq_true rfl)
        have K47 : Keep h0 h47 [] := (K37).wr W47 (Or.inr sz_b1)
        have N47 := Fr.snoc X47 N37 g_b1
        obtain ⟨cl48, Ar48, q48, S48, N48_, H48, G48⟩ := id V47
        obtain ⟨T48, h48, X48, e48, W48, st48⟩ := stC X47 hx hZ e47 Ar48 (j := (1 : Int32)) (inb_of S48 ⟨by decide, by decide⟩) (g := (mkF m 188 #[.val (.int p1), .val (.int p2), .val (.long q3), .second, .val (.long q4), .second, .val (.int p5), .val (.int p6), .val (.int (p1 &&& (3 : Int32))), .val (.int ((p2 &&& (2147483647 : Int32)) % (10 : Int32))), .val (.ref b1), .unset, .unset, .unset, .unset, .unset, .unset, .unset] [(.int (97 : Int32)), (.int (1 : Int32)), (.ref b1)])) rfl rfl (hb hby at_188)
        have V48 := Arv.set Ar48 q48 S48 N48_ H48 G48 (fits_nar_char _) W48 1 rfl (Nat.le_of_ble_eq_true rfl)
        have K48 : Keep h0 h48 [] := (K47).wr W48 (Or.inr sz_b1)
        have N48 := Fr.snoc X48 N47 g_b1
        obtain ⟨cl49, Ar49, q49, S49, N49_, H49, G49⟩ := id V48
        obtain ⟨T49, h49, X49, e49, W49, st49⟩ := stC X48 hx hZ e48 Ar49 (j := (2 : Int32)) (inb_of S49 ⟨by decide, by decide⟩) (g := (mkF m 194 #[.val (.int p1), .val (.int p2), .val (.long q3), .second, .val (.long q4), .second, .val (.int p5), .val (.int p6), .val (.int (p1 &&& (3 : Int32))), .val (.int ((p2 &&& (2147483647 : Int32)) % (10 : Int32))), .val (.ref b1), .unset, .unset, .unset, .unset, .unset, .unset, .unset] [(.int (109 : Int32)), (.int (2 : Int32)), (.ref b1)])) rfl rfl (hb hby at_194)
        have V49 := Arv.set Ar49 q49 S49 N49_ H49 G49 (fits_nar_char _) W49 2 rfl (Nat.le_of_ble_eq_true rfl)
        have K49 : Keep h0 h49 [] := (K48).wr W49 (Or.inr sz_b1)
        have N49 := Fr.snoc X49 N48 g_b1
        obtain ⟨cl50, Ar50, q50, S50, N50_, H50, G50⟩ := id V49
        obtain ⟨T50, h50, X50, e50, W50, st50⟩ := stC X49 hx hZ e49 Ar50 (j := (3 : Int32)) (inb_of S50 ⟨by decide, by decide⟩) (g := (mkF m 200 #[.val (.int p1), .val (.int p2), .val (.long q3), .second, .val (.long q4), .second, .val (.int p5), .val (.int p6), .val (.int (p1 &&& (3 : Int32))), .val (.int ((p2 &&& (2147483647 : Int32)) % (10 : Int32))), .val (.ref b1), .unset, .unset, .unset, .unset, .unset, .unset, .unset] [(.int (116 : Int32)), (.int (3 : Int32)), (.ref b1)])) rfl rfl (hb hby at_200)
        have V50 := Arv.set Ar50 q50 S50 N50_ H50 G50 (fits_nar_char _) W50 3 rfl (Nat.le_of_ble_eq_true rfl)
        have K50 : Keep h0 h50 [] := (K49).wr W50 (Or.inr sz_b1)
        have N50 := Fr.snoc X50 N49 g_b1
        obtain ⟨cl51, Ar51, q51, S51, N51_, H51, G51⟩ := id V50
        obtain ⟨T51, h51, X51, e51, W51, st51⟩ := stC X50 hx hZ e50 Ar51 (j := (4 : Int32)) (inb_of S51 ⟨by decide, by decide⟩) (g := (mkF m 206 #[.val (.int p1), .val (.int p2), .val (.long q3), .second, .val (.long q4), .second, .val (.int p5), .val (.int p6), .val (.int (p1 &&& (3 : Int32))), .val (.int ((p2 &&& (2147483647 : Int32)) % (10 : Int32))), .val (.ref b1), .unset, .unset, .unset, .unset, .unset, .unset, .unset] [(.int (46 : Int32)), (.int (4 : Int32)), (.ref b1)])) rfl rfl (hb hby at_206)
        have V51 := Arv.set Ar51 q51 S51 N51_ H51 G51 (fits_nar_char _) W51 4 rfl (Nat.le_of_ble_eq_true rfl)
        have K51 : Keep h0 h51 [] := (K50).wr W51 (Or.inr sz_b1)
        have N51 := Fr.snoc X51 N50 g_b1
        obtain ⟨cl52, Ar52, q52, S52, N52_, H52, G52⟩ := id V51
        obtain ⟨T52, h52, X52, e52, W52, st52⟩ := stC X51 hx hZ e51 Ar52 (j := (5 : Int32)) (inb_of S52 ⟨by decide, by decide⟩) (g := (mkF m 212 #[.val (.int p1), .val (.int p2), .val (.long q3), .second, .val (.long q4), .second, .val (.int p5), .val (.int p6), .val (.int (p1 &&& (3 : Int32))), .val (.int ((p2 &&& (2147483647 : Int32)) % (10 : Int32))), .val (.ref b1), .unset, .unset, .unset, .unset, .unset, .unset, .unset] [(.int (48 : Int32)), (.int (5 : Int32)), (.ref b1)])) rfl rfl (hb hby at_212)
        have V52 := Arv.set Ar52 q52 S52 N52_ H52 G52 (fits_nar_char _) W52 5 rfl (Nat.le_of_ble_eq_true rfl)
        have K52 : Keep h0 h52 [] := (K51).wr W52 (Or.inr sz_b1)
        have N52 := Fr.snoc X52 N51 g_b1
        obtain ⟨cl53, Ar53, q53, S53, N53_, H53, G53⟩ := id V52
        obtain ⟨T53, h53, X53, e53, W53, st53⟩ := stC X52 hx hZ e52 Ar53 (j := (6 : Int32)) (inb_of S53 ⟨by decide, by decide⟩) (g := (mkF m 219 #[.val (.int p1), .val (.int p2), .val (.long q3), .second, .val (.long q4), .second, .val (.int p5), .val (.int p6), .val (.int (p1 &&& (3 : Int32))), .val (.int ((p2 &&& (2147483647 : Int32)) % (10 : Int32))), .val (.ref b1), .unset, .unset, .unset, .unset, .unset, .unset, .unset] [(.int (53 : Int32)), (.int (6 : Int32)), (.ref b1)])) rfl rfl (hb hby at_219)
        have V53 := Arv.set Ar53 q53 S53 N53_ H53 G53 (fits_nar_char _) W53 6 rfl (Nat.le_of_ble_eq_true rfl)
        have K53 : Keep h0 h53 [] := (K52).wr W53 (Or.inr sz_b1)
        have N53 := Fr.snoc X53 N52 g_b1
        obtain ⟨cl54, Ar54, q54, S54, N54_, H54, G54⟩ := id V53
        obtain ⟨T54, h54, X54, e54, W54, st54⟩ := stC X53 hx hZ e53 Ar54 (j := (7 : Int32)) (inb_of S54 ⟨by decide, by decide⟩) (g := (mkF m 226 #[.val (.int p1), .val (.int p2), .val (.long q3), .second, .val (.long q4), .second, .val (.int p5), .val (.int p6), .val (.int (p1 &&& (3 : Int32))), .val (.int ((p2 &&& (2147483647 : Int32)) % (10 : Int32))), .val (.ref b1), .unset, .unset, .unset, .unset, .unset, .unset, .unset] [(.int (52 : Int32)), (.int (7 : Int32)), (.ref b1)])) rfl rfl (hb hby at_226)
        have V54 := Arv.set Ar54 q54 S54 N54_ H54 G54 (fits_nar_char _) W54 7 rfl (Nat.le_of_ble_eq_true rfl)
        have K54 : Keep h0 h54 [] := (K53).wr W54 (Or.inr sz_b1)
        have N54 := Fr.snoc X54 N53 g_b1
        have pre55 : ∀ t, Steps p.tables e below (T54.setTop (mkF m 227 #[.val (.int p1), .val (.int p2), .val (.long q3), .second, .val (.long q4), .second, .val (.int p5), .val (.int p6), .val (.int (p1 &&& (3 : Int32))), .val (.int ((p2 &&& (2147483647 : Int32)) % (10 : Int32))), .val (.ref b1), .unset, .unset, .unset, .unset, .unset, .unset, .unset] [])) t → Steps p.tables e below (s₁.setTop (entryFrame m #[(.int p1), (.int p2), (.long q3), (.long q4), (.int p5), (.int p6)] maxLocals)) t := fun t k => pre45 t (by
            show Steps p.tables e below (T37.setTop (mkF m 174 #[.val (.int p1), .val (.int p2), .val (.long q3), .second, .val (.long q4), .second, .val (.int p5), .val (.int p6), .val (.int (p1 &&& (3 : Int32))), .val (.int ((p2 &&& (2147483647 : Int32)) % (10 : Int32))), .val (.ref b1), .unset, .unset, .unset, .unset, .unset, .unset, .unset] [(.int (2 : Int32)), (.int (p1 &&& (3 : Int32)))])) _
            refine XS.icmpNo X37.here hx rfl (hb hby at_174) rfl (teq hc46).2 ?_
            show Steps p.tables e below (T37.setTop (mkF m 177 #[.val (.int p1), .val (.int p2), .val (.long q3), .second, .val (.long q4), .second, .val (.int p5), .val (.int p6), .val (.int (p1 &&& (3 : Int32))), .val (.int ((p2 &&& (2147483647 : Int32)) % (10 : Int32))), .val (.ref b1), .unset, .unset, .unset, .unset, .unset, .unset, .unset] [])) _
            refine XS.aload X37.here hx rfl (hb hby at_177) rfl rfl ?_
            show Steps p.tables e below (T37.setTop (mkF m 179 #[.val (.int p1), .val (.int p2), .val (.long q3), .second, .val (.long q4), .second, .val (.int p5), .val (.int p6), .val (.int (p1 &&& (3 : Int32))), .val (.int ((p2 &&& (2147483647 : Int32)) % (10 : Int32))), .val (.ref b1), .unset, .unset, .unset, .unset, .unset, .unset, .unset] [(.ref b1)])) _
            refine XS.iconst X37.here hx rfl (hb hby at_179) ?_
            show Steps p.tables e below (T37.setTop (mkF m 180 #[.val (.int p1), .val (.int p2), .val (.long q3), .second, .val (.long q4), .second, .val (.int p5), .val (.int p6), .val (.int (p1 &&& (3 : Int32))), .val (.int ((p2 &&& (2147483647 : Int32)) % (10 : Int32))), .val (.ref b1), .unset, .unset, .unset, .unset, .unset, .unset, .unset] [(.int (0 : Int32)), (.ref b1)])) _
            refine XS.bipush X37.here hx rfl (hb hby at_180) ?_
            show Steps p.tables e below (T37.setTop (mkF m 182 #[.val (.int p1), .val (.int p2), .val (.long q3), .second, .val (.long q4), .second, .val (.int p5), .val (.int p6), .val (.int (p1 &&& (3 : Int32))), .val (.int ((p2 &&& (2147483647 : Int32)) % (10 : Int32))), .val (.ref b1), .unset, .unset, .unset, .unset, .unset, .unset, .unset] [(.int (99 : Int32)), (.int (0 : Int32)), (.ref b1)])) _
            refine st47 _ ?_
            show Steps p.tables e below (T47.setTop (mkF m 183 #[.val (.int p1), .val (.int p2), .val (.long q3), .second, .val (.long q4), .second, .val (.int p5), .val (.int p6), .val (.int (p1 &&& (3 : Int32))), .val (.int ((p2 &&& (2147483647 : Int32)) % (10 : Int32))), .val (.ref b1), .unset, .unset, .unset, .unset, .unset, .unset, .unset] [])) _
            refine XS.aload X47.here hx rfl (hb hby at_183) rfl rfl ?_
            show Steps p.tables e below (T47.setTop (mkF m 185 #[.val (.int p1), .val (.int p2), .val (.long q3), .second, .val (.long q4), .second, .val (.int p5), .val (.int p6), .val (.int (p1 &&& (3 : Int32))), .val (.int ((p2 &&& (2147483647 : Int32)) % (10 : Int32))), .val (.ref b1), .unset, .unset, .unset, .unset, .unset, .unset, .unset] [(.ref b1)])) _
            refine XS.iconst X47.here hx rfl (hb hby at_185) ?_
            show Steps p.tables e below (T47.setTop (mkF m 186 #[.val (.int p1), .val (.int p2), .val (.long q3), .second, .val (.long q4), .second, .val (.int p5), .val (.int p6), .val (.int (p1 &&& (3 : Int32))), .val (.int ((p2 &&& (2147483647 : Int32)) % (10 : Int32))), .val (.ref b1), .unset, .unset, .unset, .unset, .unset, .unset, .unset] [(.int (1 : Int32)), (.ref b1)])) _
            refine XS.bipush X47.here hx rfl (hb hby at_186) ?_
            show Steps p.tables e below (T47.setTop (mkF m 188 #[.val (.int p1), .val (.int p2), .val (.long q3), .second, .val (.long q4), .second, .val (.int p5), .val (.int p6), .val (.int (p1 &&& (3 : Int32))), .val (.int ((p2 &&& (2147483647 : Int32)) % (10 : Int32))), .val (.ref b1), .unset, .unset, .unset, .unset, .unset, .unset, .unset] [(.int (97 : Int32)), (.int (1 : Int32)), (.ref b1)])) _
            refine st48 _ ?_
            show Steps p.tables e below (T48.setTop (mkF m 189 #[.val (.int p1), .val (.int p2), .val (.long q3), .second, .val (.long q4), .second, .val (.int p5), .val (.int p6), .val (.int (p1 &&& (3 : Int32))), .val (.int ((p2 &&& (2147483647 : Int32)) % (10 : Int32))), .val (.ref b1), .unset, .unset, .unset, .unset, .unset, .unset, .unset] [])) _
            refine XS.aload X48.here hx rfl (hb hby at_189) rfl rfl ?_
            show Steps p.tables e below (T48.setTop (mkF m 191 #[.val (.int p1), .val (.int p2), .val (.long q3), .second, .val (.long q4), .second, .val (.int p5), .val (.int p6), .val (.int (p1 &&& (3 : Int32))), .val (.int ((p2 &&& (2147483647 : Int32)) % (10 : Int32))), .val (.ref b1), .unset, .unset, .unset, .unset, .unset, .unset, .unset] [(.ref b1)])) _
            refine XS.iconst X48.here hx rfl (hb hby at_191) ?_
            show Steps p.tables e below (T48.setTop (mkF m 192 #[.val (.int p1), .val (.int p2), .val (.long q3), .second, .val (.long q4), .second, .val (.int p5), .val (.int p6), .val (.int (p1 &&& (3 : Int32))), .val (.int ((p2 &&& (2147483647 : Int32)) % (10 : Int32))), .val (.ref b1), .unset, .unset, .unset, .unset, .unset, .unset, .unset] [(.int (2 : Int32)), (.ref b1)])) _
            refine XS.bipush X48.here hx rfl (hb hby at_192) ?_
            show Steps p.tables e below (T48.setTop (mkF m 194 #[.val (.int p1), .val (.int p2), .val (.long q3), .second, .val (.long q4), .second, .val (.int p5), .val (.int p6), .val (.int (p1 &&& (3 : Int32))), .val (.int ((p2 &&& (2147483647 : Int32)) % (10 : Int32))), .val (.ref b1), .unset, .unset, .unset, .unset, .unset, .unset, .unset] [(.int (109 : Int32)), (.int (2 : Int32)), (.ref b1)])) _
            refine st49 _ ?_
            show Steps p.tables e below (T49.setTop (mkF m 195 #[.val (.int p1), .val (.int p2), .val (.long q3), .second, .val (.long q4), .second, .val (.int p5), .val (.int p6), .val (.int (p1 &&& (3 : Int32))), .val (.int ((p2 &&& (2147483647 : Int32)) % (10 : Int32))), .val (.ref b1), .unset, .unset, .unset, .unset, .unset, .unset, .unset] [])) _
            refine XS.aload X49.here hx rfl (hb hby at_195) rfl rfl ?_
            show Steps p.tables e below (T49.setTop (mkF m 197 #[.val (.int p1), .val (.int p2), .val (.long q3), .second, .val (.long q4), .second, .val (.int p5), .val (.int p6), .val (.int (p1 &&& (3 : Int32))), .val (.int ((p2 &&& (2147483647 : Int32)) % (10 : Int32))), .val (.ref b1), .unset, .unset, .unset, .unset, .unset, .unset, .unset] [(.ref b1)])) _
            refine XS.iconst X49.here hx rfl (hb hby at_197) ?_
            show Steps p.tables e below (T49.setTop (mkF m 198 #[.val (.int p1), .val (.int p2), .val (.long q3), .second, .val (.long q4), .second, .val (.int p5), .val (.int p6), .val (.int (p1 &&& (3 : Int32))), .val (.int ((p2 &&& (2147483647 : Int32)) % (10 : Int32))), .val (.ref b1), .unset, .unset, .unset, .unset, .unset, .unset, .unset] [(.int (3 : Int32)), (.ref b1)])) _
            refine XS.bipush X49.here hx rfl (hb hby at_198) ?_
            show Steps p.tables e below (T49.setTop (mkF m 200 #[.val (.int p1), .val (.int p2), .val (.long q3), .second, .val (.long q4), .second, .val (.int p5), .val (.int p6), .val (.int (p1 &&& (3 : Int32))), .val (.int ((p2 &&& (2147483647 : Int32)) % (10 : Int32))), .val (.ref b1), .unset, .unset, .unset, .unset, .unset, .unset, .unset] [(.int (116 : Int32)), (.int (3 : Int32)), (.ref b1)])) _
            refine st50 _ ?_
            show Steps p.tables e below (T50.setTop (mkF m 201 #[.val (.int p1), .val (.int p2), .val (.long q3), .second, .val (.long q4), .second, .val (.int p5), .val (.int p6), .val (.int (p1 &&& (3 : Int32))), .val (.int ((p2 &&& (2147483647 : Int32)) % (10 : Int32))), .val (.ref b1), .unset, .unset, .unset, .unset, .unset, .unset, .unset] [])) _
            refine XS.aload X50.here hx rfl (hb hby at_201) rfl rfl ?_
            show Steps p.tables e below (T50.setTop (mkF m 203 #[.val (.int p1), .val (.int p2), .val (.long q3), .second, .val (.long q4), .second, .val (.int p5), .val (.int p6), .val (.int (p1 &&& (3 : Int32))), .val (.int ((p2 &&& (2147483647 : Int32)) % (10 : Int32))), .val (.ref b1), .unset, .unset, .unset, .unset, .unset, .unset, .unset] [(.ref b1)])) _
            refine XS.iconst X50.here hx rfl (hb hby at_203) ?_
            show Steps p.tables e below (T50.setTop (mkF m 204 #[.val (.int p1), .val (.int p2), .val (.long q3), .second, .val (.long q4), .second, .val (.int p5), .val (.int p6), .val (.int (p1 &&& (3 : Int32))), .val (.int ((p2 &&& (2147483647 : Int32)) % (10 : Int32))), .val (.ref b1), .unset, .unset, .unset, .unset, .unset, .unset, .unset] [(.int (4 : Int32)), (.ref b1)])) _
            refine XS.bipush X50.here hx rfl (hb hby at_204) ?_
            show Steps p.tables e below (T50.setTop (mkF m 206 #[.val (.int p1), .val (.int p2), .val (.long q3), .second, .val (.long q4), .second, .val (.int p5), .val (.int p6), .val (.int (p1 &&& (3 : Int32))), .val (.int ((p2 &&& (2147483647 : Int32)) % (10 : Int32))), .val (.ref b1), .unset, .unset, .unset, .unset, .unset, .unset, .unset] [(.int (46 : Int32)), (.int (4 : Int32)), (.ref b1)])) _
            refine st51 _ ?_
            show Steps p.tables e below (T51.setTop (mkF m 207 #[.val (.int p1), .val (.int p2), .val (.long q3), .second, .val (.long q4), .second, .val (.int p5), .val (.int p6), .val (.int (p1 &&& (3 : Int32))), .val (.int ((p2 &&& (2147483647 : Int32)) % (10 : Int32))), .val (.ref b1), .unset, .unset, .unset, .unset, .unset, .unset, .unset] [])) _
            refine XS.aload X51.here hx rfl (hb hby at_207) rfl rfl ?_
            show Steps p.tables e below (T51.setTop (mkF m 209 #[.val (.int p1), .val (.int p2), .val (.long q3), .second, .val (.long q4), .second, .val (.int p5), .val (.int p6), .val (.int (p1 &&& (3 : Int32))), .val (.int ((p2 &&& (2147483647 : Int32)) % (10 : Int32))), .val (.ref b1), .unset, .unset, .unset, .unset, .unset, .unset, .unset] [(.ref b1)])) _
            refine XS.iconst X51.here hx rfl (hb hby at_209) ?_
            show Steps p.tables e below (T51.setTop (mkF m 210 #[.val (.int p1), .val (.int p2), .val (.long q3), .second, .val (.long q4), .second, .val (.int p5), .val (.int p6), .val (.int (p1 &&& (3 : Int32))), .val (.int ((p2 &&& (2147483647 : Int32)) % (10 : Int32))), .val (.ref b1), .unset, .unset, .unset, .unset, .unset, .unset, .unset] [(.int (5 : Int32)), (.ref b1)])) _
            refine XS.bipush X51.here hx rfl (hb hby at_210) ?_
            show Steps p.tables e below (T51.setTop (mkF m 212 #[.val (.int p1), .val (.int p2), .val (.long q3), .second, .val (.long q4), .second, .val (.int p5), .val (.int p6), .val (.int (p1 &&& (3 : Int32))), .val (.int ((p2 &&& (2147483647 : Int32)) % (10 : Int32))), .val (.ref b1), .unset, .unset, .unset, .unset, .unset, .unset, .unset] [(.int (48 : Int32)), (.int (5 : Int32)), (.ref b1)])) _
            refine st52 _ ?_
            show Steps p.tables e below (T52.setTop (mkF m 213 #[.val (.int p1), .val (.int p2), .val (.long q3), .second, .val (.long q4), .second, .val (.int p5), .val (.int p6), .val (.int (p1 &&& (3 : Int32))), .val (.int ((p2 &&& (2147483647 : Int32)) % (10 : Int32))), .val (.ref b1), .unset, .unset, .unset, .unset, .unset, .unset, .unset] [])) _
            refine XS.aload X52.here hx rfl (hb hby at_213) rfl rfl ?_
            show Steps p.tables e below (T52.setTop (mkF m 215 #[.val (.int p1), .val (.int p2), .val (.long q3), .second, .val (.long q4), .second, .val (.int p5), .val (.int p6), .val (.int (p1 &&& (3 : Int32))), .val (.int ((p2 &&& (2147483647 : Int32)) % (10 : Int32))), .val (.ref b1), .unset, .unset, .unset, .unset, .unset, .unset, .unset] [(.ref b1)])) _
            refine XS.bipush X52.here hx rfl (hb hby at_215) ?_
            show Steps p.tables e below (T52.setTop (mkF m 217 #[.val (.int p1), .val (.int p2), .val (.long q3), .second, .val (.long q4), .second, .val (.int p5), .val (.int p6), .val (.int (p1 &&& (3 : Int32))), .val (.int ((p2 &&& (2147483647 : Int32)) % (10 : Int32))), .val (.ref b1), .unset, .unset, .unset, .unset, .unset, .unset, .unset] [(.int (6 : Int32)), (.ref b1)])) _
            refine XS.bipush X52.here hx rfl (hb hby at_217) ?_
            show Steps p.tables e below (T52.setTop (mkF m 219 #[.val (.int p1), .val (.int p2), .val (.long q3), .second, .val (.long q4), .second, .val (.int p5), .val (.int p6), .val (.int (p1 &&& (3 : Int32))), .val (.int ((p2 &&& (2147483647 : Int32)) % (10 : Int32))), .val (.ref b1), .unset, .unset, .unset, .unset, .unset, .unset, .unset] [(.int (53 : Int32)), (.int (6 : Int32)), (.ref b1)])) _
            refine st53 _ ?_
            show Steps p.tables e below (T53.setTop (mkF m 220 #[.val (.int p1), .val (.int p2), .val (.long q3), .second, .val (.long q4), .second, .val (.int p5), .val (.int p6), .val (.int (p1 &&& (3 : Int32))), .val (.int ((p2 &&& (2147483647 : Int32)) % (10 : Int32))), .val (.ref b1), .unset, .unset, .unset, .unset, .unset, .unset, .unset] [])) _
            refine XS.aload X53.here hx rfl (hb hby at_220) rfl rfl ?_
            show Steps p.tables e below (T53.setTop (mkF m 222 #[.val (.int p1), .val (.int p2), .val (.long q3), .second, .val (.long q4), .second, .val (.int p5), .val (.int p6), .val (.int (p1 &&& (3 : Int32))), .val (.int ((p2 &&& (2147483647 : Int32)) % (10 : Int32))), .val (.ref b1), .unset, .unset, .unset, .unset, .unset, .unset, .unset] [(.ref b1)])) _
            refine XS.bipush X53.here hx rfl (hb hby at_222) ?_
            show Steps p.tables e below (T53.setTop (mkF m 224 #[.val (.int p1), .val (.int p2), .val (.long q3), .second, .val (.long q4), .second, .val (.int p5), .val (.int p6), .val (.int (p1 &&& (3 : Int32))), .val (.int ((p2 &&& (2147483647 : Int32)) % (10 : Int32))), .val (.ref b1), .unset, .unset, .unset, .unset, .unset, .unset, .unset] [(.int (7 : Int32)), (.ref b1)])) _
            refine XS.bipush X53.here hx rfl (hb hby at_224) ?_
            show Steps p.tables e below (T53.setTop (mkF m 226 #[.val (.int p1), .val (.int p2), .val (.long q3), .second, .val (.long q4), .second, .val (.int p5), .val (.int p6), .val (.int (p1 &&& (3 : Int32))), .val (.int ((p2 &&& (2147483647 : Int32)) % (10 : Int32))), .val (.ref b1), .unset, .unset, .unset, .unset, .unset, .unset, .unset] [(.int (52 : Int32)), (.int (7 : Int32)), (.ref b1)])) _
            refine st54 _ ?_
            exact k)
        exact ⟨T54, h54, _, (99 : Int32), (97 : Int32), (109 : Int32), (116 : Int32), (46 : Int32), (48 : Int32), (53 : Int32), (52 : Int32), (nar .char v34), X54, e54, N54, K54, (by decide), (by decide), (by decide), (by decide), (by decide), (by decide), (by decide), (by decide), (own_narb hb_v34), V54, pre55⟩
      · have pre56 : ∀ t, Steps p.tables e below (T37.setTop (mkF m 227 #[.val (.int p1), .val (.int p2), .val (.long q3), .second, .val (.long q4), .second, .val (.int p5), .val (.int p6), .val (.int (p1 &&& (3 : Int32))), .val (.int ((p2 &&& (2147483647 : Int32)) % (10 : Int32))), .val (.ref b1), .unset, .unset, .unset, .unset, .unset, .unset, .unset] [])) t → Steps p.tables e below (s₁.setTop (entryFrame m #[(.int p1), (.int p2), (.long q3), (.long q4), (.int p5), (.int p6)] maxLocals)) t := fun t k => pre45 t (by
            show Steps p.tables e below (T37.setTop (mkF m 174 #[.val (.int p1), .val (.int p2), .val (.long q3), .second, .val (.long q4), .second, .val (.int p5), .val (.int p6), .val (.int (p1 &&& (3 : Int32))), .val (.int ((p2 &&& (2147483647 : Int32)) % (10 : Int32))), .val (.ref b1), .unset, .unset, .unset, .unset, .unset, .unset, .unset] [(.int (2 : Int32)), (.int (p1 &&& (3 : Int32)))])) _
            refine XS.icmpYes X37.here hx rfl (pc0 := 174) (pc' := 227) rfl (hb hby at_174) rfl (feq hc46).2 (by decide) (by decide) ?_
            exact k)
        exact ⟨T37, h37, _, (nar .char v2), (nar .char v6), (nar .char v10), (nar .char v14), (nar .char v18), (nar .char v22), (nar .char v26), (nar .char v30), (nar .char v34), X37, e37, N37, K37, (own_narb hb_v2), (own_narb hb_v6), (own_narb hb_v10), (own_narb hb_v14), (own_narb hb_v18), (own_narb hb_v22), (own_narb hb_v26), (own_narb hb_v30), (own_narb hb_v34), V37, pre56⟩
  have pre57 : ∀ t, Steps p.tables e below (T39.setTop (mkF m 230 #[.val (.int p1), .val (.int p2), .val (.long q3), .second, .val (.long q4), .second, .val (.int p5), .val (.int p6), .val (.int (p1 &&& (3 : Int32))), .val (.int ((p2 &&& (2147483647 : Int32)) % (10 : Int32))), .val (.ref b1), .unset, .unset, .unset, .unset, .unset, .unset, .unset] [(.int (p1 &&& (4 : Int32)))])) t → Steps p.tables e below (s₁.setTop (entryFrame m #[(.int p1), (.int p2), (.long q3), (.long q4), (.int p5), (.int p6)] maxLocals)) t := fun t k => pre39 t (by
      show Steps p.tables e below (T39.setTop (mkF m 227 #[.val (.int p1), .val (.int p2), .val (.long q3), .second, .val (.long q4), .second, .val (.int p5), .val (.int p6), .val (.int (p1 &&& (3 : Int32))), .val (.int ((p2 &&& (2147483647 : Int32)) % (10 : Int32))), .val (.ref b1), .unset, .unset, .unset, .unset, .unset, .unset, .unset] [])) _
      refine XS.iloadN X39.here hx rfl (hb hby at_227) rfl ?_
      show Steps p.tables e below (T39.setTop (mkF m 228 #[.val (.int p1), .val (.int p2), .val (.long q3), .second, .val (.long q4), .second, .val (.int p5), .val (.int p6), .val (.int (p1 &&& (3 : Int32))), .val (.int ((p2 &&& (2147483647 : Int32)) % (10 : Int32))), .val (.ref b1), .unset, .unset, .unset, .unset, .unset, .unset, .unset] [(.int p1)])) _
      refine XS.iconst X39.here hx rfl (hb hby at_228) ?_
      show Steps p.tables e below (T39.setTop (mkF m 229 #[.val (.int p1), .val (.int p2), .val (.long q3), .second, .val (.long q4), .second, .val (.int p5), .val (.int p6), .val (.int (p1 &&& (3 : Int32))), .val (.int ((p2 &&& (2147483647 : Int32)) % (10 : Int32))), .val (.ref b1), .unset, .unset, .unset, .unset, .unset, .unset, .unset] [(.int (4 : Int32)), (.int p1)])) _
      refine XS.iand X39.here hx rfl (hb hby at_229) rfl ?_
      exact k)
  obtain ⟨T58, h58, L58, c58_0, c58_1, c58_2, c58_3, c58_4, c58_5, c58_6, c58_7, c58_8, X58, e58, N58, K58, hb_c58_0, hb_c58_1, hb_c58_2, hb_c58_3, hb_c58_4, hb_c58_5, hb_c58_6, hb_c58_7, hb_c58_8, V58, pre58⟩ : ∃ (T' : State) (h' : Heap) (L' : List Loc) (c58_0 c58_1 c58_2 c58_3 c58_4 c58_5 c58_6 c58_7 c58_8 : Int32), Stand p l e room_1 s m #[(.int p1), (.int p2), (.long q3), (.long q4), (.int p5), (.int p6)] below meth c T' L' 1 9 ∧ T'.heap = h' ∧ Fr n0 L' ∧ Keep h0 h' [] ∧ (¬ c58_0 < 0 ∧ ¬ (255 : Int32) < c58_0) ∧ (¬ c58_1 < 0 ∧ ¬ (255 : Int32) < c58_1) ∧ (¬ c58_2 < 0 ∧ ¬ (255 : Int32) < c58_2) ∧ (¬ c58_3 < 0 ∧ ¬ (255 : Int32) < c58_3) ∧ (¬ c58_4 < 0 ∧ ¬ (255 : Int32) < c58_4) ∧ (¬ c58_5 < 0 ∧ ¬ (255 : Int32) < c58_5) ∧ (¬ c58_6 < 0 ∧ ¬ (255 : Int32) < c58_6) ∧ (¬ c58_7 < 0 ∧ ¬ (255 : Int32) < c58_7) ∧ (¬ c58_8 < 0 ∧ ¬ (255 : Int32) < c58_8) ∧ Arv Z h' b1 k1 .char (9 : Int32) [.int c58_0, .int c58_1, .int c58_2, .int c58_3, .int c58_4, .int c58_5, .int c58_6, .int c58_7, .int c58_8] (.int (0 : Int32)) ∧ ∀ t, Steps p.tables e below (T'.setTop (mkF m 251 #[.val (.int p1), .val (.int p2), .val (.long q3), .second, .val (.long q4), .second, .val (.int p5), .val (.int p6), .val (.int (p1 &&& (3 : Int32))), .val (.int ((p2 &&& (2147483647 : Int32)) % (10 : Int32))), .val (.ref b1), .unset, .unset, .unset, .unset, .unset, .unset, .unset] [])) t → Steps p.tables e below (s₁.setTop (entryFrame m #[(.int p1), (.int p2), (.long q3), (.long q4), (.int p5), (.int p6)] maxLocals)) t := by
    by_cases hc59 : (p1 &&& (4 : Int32)) = (0 : Int32)
    · have pre60 : ∀ t, Steps p.tables e below (T39.setTop (mkF m 251 #[.val (.int p1), .val (.int p2), .val (.long q3), .second, .val (.long q4), .second, .val (.int p5), .val (.int p6), .val (.int (p1 &&& (3 : Int32))), .val (.int ((p2 &&& (2147483647 : Int32)) % (10 : Int32))), .val (.ref b1), .unset, .unset, .unset, .unset, .unset, .unset, .unset] [])) t → Steps p.tables e below (s₁.setTop (entryFrame m #[(.int p1), (.int p2), (.long q3), (.long q4), (.int p5), (.int p6)] maxLocals)) t := fun t k => pre57 t (by
          show Steps p.tables e below (T39.setTop (mkF m 230 #[.val (.int p1), .val (.int p2), .val (.long q3), .second, .val (.long q4), .second, .val (.int p5), .val (.int p6), .val (.int (p1 &&& (3 : Int32))), .val (.int ((p2 &&& (2147483647 : Int32)) % (10 : Int32))), .val (.ref b1), .unset, .unset, .unset, .unset, .unset, .unset, .unset] [(.int (p1 &&& (4 : Int32)))])) _
          refine XS.ifYes X39.here hx rfl (pc0 := 230) (pc' := 251) rfl (hb hby at_230) rfl ((if0 _ _).trans (teq hc59).1) (by decide) (by decide) ?_
          exact k)
      exact ⟨T39, h39, _, c39_0, c39_1, c39_2, c39_3, c39_4, c39_5, c39_6, c39_7, c39_8, X39, e39, N39, K39, hb_c39_0, hb_c39_1, hb_c39_2, hb_c39_3, hb_c39_4, hb_c39_5, hb_c39_6, hb_c39_7, hb_c39_8, V39, pre60⟩
    · have pre62 : ∀ t, Steps p.tables e below (T39.setTop (mkF m 250 #[.val (.int p1), .val (.int p2), .val (.long q3), .second, .val (.long q4), .second, .val (.int p5), .val (.int p6), .val (.int (p1 &&& (3 : Int32))), .val (.int ((p2 &&& (2147483647 : Int32)) % (10 : Int32))), .val (.ref b1), .unset, .unset, .unset, .unset, .unset, .unset, .unset] [(.int ((p6 &&& (255 : Int32)).toUInt32.toUInt16.toUInt32.toInt32)), (.int ((p5 &&& (2147483647 : Int32)) % (9 : Int32))), (.ref b1)])) t → Steps p.tables e below (s₁.setTop (entryFrame m #[(.int p1), (.int p2), (.long q3), (.long q4), (.int p5), (.int p6)] maxLocals)) t := fun t k => pre57 t (by
          show Steps p.tables e below (T39.setTop (mkF m 230 #[.val (.int p1), .val (.int p2), .val (.long q3), .second, .val (.long q4), .second, .val (.int p5), .val (.int p6), .val (.int (p1 &&& (3 : Int32))), .val (.int ((p2 &&& (2147483647 : Int32)) % (10 : Int32))), .val (.ref b1), .unset, .unset, .unset, .unset, .unset, .unset, .unset] [(.int (p1 &&& (4 : Int32)))])) _
          refine XS.ifNo X39.here hx rfl (hb hby at_230) rfl ((if0 _ _).trans (feq hc59).1) ?_
          show Steps p.tables e below (T39.setTop (mkF m 233 #[.val (.int p1), .val (.int p2), .val (.long q3), .second, .val (.long q4), .second, .val (.int p5), .val (.int p6), .val (.int (p1 &&& (3 : Int32))), .val (.int ((p2 &&& (2147483647 : Int32)) % (10 : Int32))), .val (.ref b1), .unset, .unset, .unset, .unset, .unset, .unset, .unset] [])) _
          refine XS.aload X39.here hx rfl (hb hby at_233) rfl rfl ?_
          show Steps p.tables e below (T39.setTop (mkF m 235 #[.val (.int p1), .val (.int p2), .val (.long q3), .second, .val (.long q4), .second, .val (.int p5), .val (.int p6), .val (.int (p1 &&& (3 : Int32))), .val (.int ((p2 &&& (2147483647 : Int32)) % (10 : Int32))), .val (.ref b1), .unset, .unset, .unset, .unset, .unset, .unset, .unset] [(.ref b1)])) _
          refine XS.iload X39.here hx rfl (hb hby at_235) rfl ?_
          show Steps p.tables e below (T39.setTop (mkF m 237 #[.val (.int p1), .val (.int p2), .val (.long q3), .second, .val (.long q4), .second, .val (.int p5), .val (.int p6), .val (.int (p1 &&& (3 : Int32))), .val (.int ((p2 &&& (2147483647 : Int32)) % (10 : Int32))), .val (.ref b1), .unset, .unset, .unset, .unset, .unset, .unset, .unset] [(.int p5), (.ref b1)])) _
          refine X39.ldcInt hx hown (mvT hZ (hw _ (List.mem_of_getElem? (i := 0) rfl))) (g := (mkF m 237 #[.val (.int p1), .val (.int p2), .val (.long q3), .second, .val (.long q4), .second, .val (.int p5), .val (.int p6), .val (.int (p1 &&& (3 : Int32))), .val (.int ((p2 &&& (2147483647 : Int32)) % (10 : Int32))), .val (.ref b1), .unset, .unset, .unset, .unset, .unset, .unset, .unset] [(.int p5), (.ref b1)])) rfl (hb hby at_237) _ ?_
          show Steps p.tables e below (T39.setTop (mkF m 239 #[.val (.int p1), .val (.int p2), .val (.long q3), .second, .val (.long q4), .second, .val (.int p5), .val (.int p6), .val (.int (p1 &&& (3 : Int32))), .val (.int ((p2 &&& (2147483647 : Int32)) % (10 : Int32))), .val (.ref b1), .unset, .unset, .unset, .unset, .unset, .unset, .unset] [(.int (2147483647 : Int32)), (.int p5), (.ref b1)])) _
          refine XS.iand X39.here hx rfl (hb hby at_239) rfl ?_
          show Steps p.tables e below (T39.setTop (mkF m 240 #[.val (.int p1), .val (.int p2), .val (.long q3), .second, .val (.long q4), .second, .val (.int p5), .val (.int p6), .val (.int (p1 &&& (3 : Int32))), .val (.int ((p2 &&& (2147483647 : Int32)) % (10 : Int32))), .val (.ref b1), .unset, .unset, .unset, .unset, .unset, .unset, .unset] [(.int (p5 &&& (2147483647 : Int32))), (.ref b1)])) _
          refine XS.bipush X39.here hx rfl (hb hby at_240) ?_
          show Steps p.tables e below (T39.setTop (mkF m 242 #[.val (.int p1), .val (.int p2), .val (.long q3), .second, .val (.long q4), .second, .val (.int p5), .val (.int p6), .val (.int (p1 &&& (3 : Int32))), .val (.int ((p2 &&& (2147483647 : Int32)) % (10 : Int32))), .val (.ref b1), .unset, .unset, .unset, .unset, .unset, .unset, .unset] [(.int (9 : Int32)), (.int (p5 &&& (2147483647 : Int32))), (.ref b1)])) _
          refine Jvm.RoadKit.iremM (g := (mkF m 242 #[.val (.int p1), .val (.int p2), .val (.long q3), .second, .val (.long q4), .second, .val (.int p5), .val (.int p6), .val (.int (p1 &&& (3 : Int32))), .val (.int ((p2 &&& (2147483647 : Int32)) % (10 : Int32))), .val (.ref b1), .unset, .unset, .unset, .unset, .unset, .unset, .unset] [(.int (9 : Int32)), (.int (p5 &&& (2147483647 : Int32))), (.ref b1)])) X39 hx rfl (hb hby at_242) rfl (by decide) ?_
          show Steps p.tables e below (T39.setTop (mkF m 243 #[.val (.int p1), .val (.int p2), .val (.long q3), .second, .val (.long q4), .second, .val (.int p5), .val (.int p6), .val (.int (p1 &&& (3 : Int32))), .val (.int ((p2 &&& (2147483647 : Int32)) % (10 : Int32))), .val (.ref b1), .unset, .unset, .unset, .unset, .unset, .unset, .unset] [(.int ((p5 &&& (2147483647 : Int32)) % (9 : Int32))), (.ref b1)])) _
          refine XS.iload X39.here hx rfl (hb hby at_243) rfl ?_
          show Steps p.tables e below (T39.setTop (mkF m 245 #[.val (.int p1), .val (.int p2), .val (.long q3), .second, .val (.long q4), .second, .val (.int p5), .val (.int p6), .val (.int (p1 &&& (3 : Int32))), .val (.int ((p2 &&& (2147483647 : Int32)) % (10 : Int32))), .val (.ref b1), .unset, .unset, .unset, .unset, .unset, .unset, .unset] [(.int p6), (.int ((p5 &&& (2147483647 : Int32)) % (9 : Int32))), (.ref b1)])) _
          refine XS.sipush X39.here hx rfl (hb hby at_245) ?_
          show Steps p.tables e below (T39.setTop (mkF m 248 #[.val (.int p1), .val (.int p2), .val (.long q3), .second, .val (.long q4), .second, .val (.int p5), .val (.int p6), .val (.int (p1 &&& (3 : Int32))), .val (.int ((p2 &&& (2147483647 : Int32)) % (10 : Int32))), .val (.ref b1), .unset, .unset, .unset, .unset, .unset, .unset, .unset] [(.int (255 : Int32)), (.int p6), (.int ((p5 &&& (2147483647 : Int32)) % (9 : Int32))), (.ref b1)])) _
          refine XS.iand X39.here hx rfl (hb hby at_248) rfl ?_
          show Steps p.tables e below (T39.setTop (mkF m 249 #[.val (.int p1), .val (.int p2), .val (.long q3), .second, .val (.long q4), .second, .val (.int p5), .val (.int p6), .val (.int (p1 &&& (3 : Int32))), .val (.int ((p2 &&& (2147483647 : Int32)) % (10 : Int32))), .val (.ref b1), .unset, .unset, .unset, .unset, .unset, .unset, .unset] [(.int (p6 &&& (255 : Int32))), (.int ((p5 &&& (2147483647 : Int32)) % (9 : Int32))), (.ref b1)])) _
          refine XS.i2c X39.here hx rfl (hb hby at_249) rfl ?_
          exact k)
      obtain ⟨v61, hv61⟩ : ∃ z, z = ((p6 &&& (255 : Int32)).toUInt32.toUInt16.toUInt32.toInt32) := ⟨_, rfl⟩
      have pre63 : ∀ t, Steps p.tables e below (T39.setTop (mkF m 250 #[.val (.int p1), .val (.int p2), .val (.long q3), .second, .val (.long q4), .second, .val (.int p5), .val (.int p6), .val (.int (p1 &&& (3 : Int32))), .val (.int ((p2 &&& (2147483647 : Int32)) % (10 : Int32))), .val (.ref b1), .unset, .unset, .unset, .unset, .unset, .unset, .unset] [(.int v61), (.int ((p5 &&& (2147483647 : Int32)) % (9 : Int32))), (.ref b1)])) t → Steps p.tables e below (s₁.setTop (entryFrame m #[(.int p1), (.int p2), (.long q3), (.long q4), (.int p5), (.int p6)] maxLocals)) t := fun t k => pre62 t (by rw [← hv61]; exact k)
      have hb_v61 : ¬ v61 < 0 ∧ ¬ (255 : Int32) < v61 := by rw [hv61]; exact own_cI _
      have hbnd := own_rem p5 (9 : Int32) 9 rfl (by decide)
      rcases own_cases9 hbnd.1 hbnd.2 with hk | hk | hk | hk | hk | hk | hk | hk | hk
      · have pre64 : ∀ t, Steps p.tables e below (T39.setTop (mkF m 250 #[.val (.int p1), .val (.int p2), .val (.long q3), .second, .val (.long q4), .second, .val (.int p5), .val (.int p6), .val (.int (p1 &&& (3 : Int32))), .val (.int ((p2 &&& (2147483647 : Int32)) % (10 : Int32))), .val (.ref b1), .unset, .unset, .unset, .unset, .unset, .unset, .unset] [(.int v61), (.int (0 : Int32)), (.ref b1)])) t → Steps p.tables e below (s₁.setTop (entryFrame m #[(.int p1), (.int p2), (.long q3), (.long q4), (.int p5), (.int p6)] maxLocals)) t := fun t k => pre63 t (by rw [hk]; exact k)
        obtain ⟨cl65, Ar65, q65, S65, N65_, H65, G65⟩ := id V39
        obtain ⟨T65, h65, X65, e65, W65, st65⟩ := stC X39 hx hZ e39 Ar65 (j := (0 : Int32)) (inb_of S65 ⟨by decide, by decide⟩) (g := (mkF m 250 #[.val (.int p1), .val (.int p2), .val (.long q3), .second, .val (.long q4), .second, .val (.int p5), .val (.int p6), .val (.int (p1 &&& (3 : Int32))), .val (.int ((p2 &&& (2147483647 : Int32)) % (10 : Int32))), .val (.ref b1), .unset, .unset, .unset, .unset, .unset, .unset, .unset] [(.int v61), (.int (0 : Int32)), (.ref b1)])) rfl rfl (hb hby at_250)
        have V65 := Arv.set Ar65 q65 S65 N65_ H65 G65 (fits_nar_char _) W65 0 rfl (Nat.le_of_ble_eq_true rfl)
        have K65 : Keep h0 h65 [] := (K39).wr W65 (Or.inr sz_b1)
        have N65 := Fr.snoc X65 N39 g_b1
        have pre66 : ∀ t, Steps p.tables e below (T65.setTop (mkF m 251 #[.val (.int p1), .val (.int p2), .val (.long q3), .second, .val (.long q4), .second, .val (.int p5), .val (.int p6), .val (.int (p1 &&& (3 : Int32))), .val (.int ((p2 &&& (2147483647 : Int32)) % (10 : Int32))), .val (.ref b1), .unset, .unset, .unset, .unset, .unset, .unset, .unset] [])) t → Steps p.tables e below (s₁.setTop (entryFrame m #[(.int p1), (.int p2), (.long q3), (.long q4), (.int p5), (.int p6)] maxLocals)) t := fun t k => pre64 t (by
            show Steps p.tables e below (T39.setTop (mkF m 250 #[.val (.int p1), .val (.int p2), .val (.long q3), .second, .val (.long q4), .second, .val (.int p5), .val (.int p6), .val (.int (p1 &&& (3 : Int32))), .val (.int ((p2 &&& (2147483647 : Int32)) % (10 : Int32))), .val (.ref b1), .unset, .unset, .unset, .unset, .unset, .unset, .unset] [(.int v61), (.int (0 : Int32)), (.ref b1)])) _
            refine st65 _ ?_
            exact k)
        exact ⟨T65, h65, _, (nar .char v61), c39_1, c39_2, c39_3, c39_4, c39_5, c39_6, c39_7, c39_8, X65, e65, N65, K65, (own_narb hb_v61), hb_c39_1, hb_c39_2, hb_c39_3, hb_c39_4, hb_c39_5, hb_c39_6, hb_c39_7, hb_c39_8, V65, pre66⟩
      · have pre67 : ∀ t, Steps p.tables e below (T39.setTop (mkF m 250 #[.val (.int p1), .val (.int p2), .val (.long q3), .second, .val (.long q4), .second, .val (.int p5), .val (.int p6), .val (.int (p1 &&& (3 : Int32))), .val (.int ((p2 &&& (2147483647 : Int32)) % (10 : Int32))), .val (.ref b1), .unset, .unset, .unset, .unset, .unset, .unset, .unset] [(.int v61), (.int (1 : Int32)), (.ref b1)])) t → Steps p.tables e below (s₁.setTop (entryFrame m #[(.int p1), (.int p2), (.long q3), (.long q4), (.int p5), (.int p6)] maxLocals)) t := fun t k => pre63 t (by rw [hk]; exact k)
        obtain ⟨cl68, Ar68, q68, S68, N68_, H68, G68⟩ := id V39
        obtain ⟨T68, h68, X68, e68, W68, st68⟩ := stC X39 hx hZ e39 Ar68 (j := (1 : Int32)) (inb_of S68 ⟨by decide, by decide⟩) (g := (mkF m 250 #[.val (.int p1), .val (.int p2), .val (.long q3), .second, .val (.long q4), .second, .val (.int p5), .val (.int p6), .val (.int (p1 &&& (3 : Int32))), .val (.int ((p2 &&& (2147483647 : Int32)) % (10 : Int32))), .val (.ref b1), .unset, .unset, .unset, .unset, .unset, .unset, .unset] [(.int v61), (.int (1 : Int32)), (.ref b1)])) rfl rfl (hb hby at_250)
        have V68 := Arv.set Ar68 q68 S68 N68_ H68 G68 (fits_nar_char _) W68 1 rfl (Nat.le_of_ble_eq_true rfl)
        have K68 : Keep h0 h68 [] := (K39).wr W68 (Or.inr sz_b1)
        have N68 := Fr.snoc X68 N39 g_b1
        have pre69 : ∀ t, Steps p.tables e below (T68.setTop (mkF m 251 #[.val (.int p1), .val (.int p2), .val (.long q3), .second, .val (.long q4), .second, .val (.int p5), .val (.int p6), .val (.int (p1 &&& (3 : Int32))), .val (.int ((p2 &&& (2147483647 : Int32)) % (10 : Int32))), .val (.ref b1), .unset, .unset, .unset, .unset, .unset, .unset, .unset] [])) t → Steps p.tables e below (s₁.setTop (entryFrame m #[(.int p1), (.int p2), (.long q3), (.long q4), (.int p5), (.int p6)] maxLocals)) t := fun t k => pre67 t (by
            show Steps p.tables e below (T39.setTop (mkF m 250 #[.val (.int p1), .val (.int p2), .val (.long q3), .second, .val (.long q4), .second, .val (.int p5), .val (.int p6), .val (.int (p1 &&& (3 : Int32))), .val (.int ((p2 &&& (2147483647 : Int32)) % (10 : Int32))), .val (.ref b1), .unset, .unset, .unset, .unset, .unset, .unset, .unset] [(.int v61), (.int (1 : Int32)), (.ref b1)])) _
            refine st68 _ ?_
            exact k)
        exact ⟨T68, h68, _, c39_0, (nar .char v61), c39_2, c39_3, c39_4, c39_5, c39_6, c39_7, c39_8, X68, e68, N68, K68, hb_c39_0, (own_narb hb_v61), hb_c39_2, hb_c39_3, hb_c39_4, hb_c39_5, hb_c39_6, hb_c39_7, hb_c39_8, V68, pre69⟩
      · have pre70 : ∀ t, Steps p.tables e below (T39.setTop (mkF m 250 #[.val (.int p1), .val (.int p2), .val (.long q3), .second, .val (.long q4), .second, .val (.int p5), .val (.int p6), .val (.int (p1 &&& (3 : Int32))), .val (.int ((p2 &&& (2147483647 : Int32)) % (10 : Int32))), .val (.ref b1), .unset, .unset, .unset, .unset, .unset, .unset, .unset] [(.int v61), (.int (2 : Int32)), (.ref b1)])) t → Steps p.tables e below (s₁.setTop (entryFrame m #[(.int p1), (.int p2), (.long q3), (.long q4), (.int p5), (.int p6)] maxLocals)) t := fun t k => pre63 t (by rw [hk]; exact k)
        obtain ⟨cl71, Ar71, q71, S71, N71_, H71, G71⟩ := id V39
        obtain ⟨T71, h71, X71, e71, W71, st71⟩ := stC X39 hx hZ e39 Ar71 (j := (2 : Int32)) (inb_of S71 ⟨by decide, by decide⟩) (g := (mkF m 250 #[.val (.int p1), .val (.int p2), .val (.long q3), .second, .val (.long q4), .second, .val (.int p5), .val (.int p6), .val (.int (p1 &&& (3 : Int32))), .val (.int ((p2 &&& (2147483647 : Int32)) % (10 : Int32))), .val (.ref b1), .unset, .unset, .unset, .unset, .unset, .unset, .unset] [(.int v61), (.int (2 : Int32)), (.ref b1)])) rfl rfl (hb hby at_250)
        have V71 := Arv.set Ar71 q71 S71 N71_ H71 G71 (fits_nar_char _) W71 2 rfl (Nat.le_of_ble_eq_true rfl)
        have K71 : Keep h0 h71 [] := (K39).wr W71 (Or.inr sz_b1)
        have N71 := Fr.snoc X71 N39 g_b1
        have pre72 : ∀ t, Steps p.tables e below (T71.setTop (mkF m 251 #[.val (.int p1), .val (.int p2), .val (.long q3), .second, .val (.long q4), .second, .val (.int p5), .val (.int p6), .val (.int (p1 &&& (3 : Int32))), .val (.int ((p2 &&& (2147483647 : Int32)) % (10 : Int32))), .val (.ref b1), .unset, .unset, .unset, .unset, .unset, .unset, .unset] [])) t → Steps p.tables e below (s₁.setTop (entryFrame m #[(.int p1), (.int p2), (.long q3), (.long q4), (.int p5), (.int p6)] maxLocals)) t := fun t k => pre70 t (by
            show Steps p.tables e below (T39.setTop (mkF m 250 #[.val (.int p1), .val (.int p2), .val (.long q3), .second, .val (.long q4), .second, .val (.int p5), .val (.int p6), .val (.int (p1 &&& (3 : Int32))), .val (.int ((p2 &&& (2147483647 : Int32)) % (10 : Int32))), .val (.ref b1), .unset, .unset, .unset, .unset, .unset, .unset, .unset] [(.int v61), (.int (2 : Int32)), (.ref b1)])) _
            refine st71 _ ?_
            exact k)
        exact ⟨T71, h71, _, c39_0, c39_1, (nar .char v61), c39_3, c39_4, c39_5, c39_6, c39_7, c39_8, X71, e71, N71, K71, hb_c39_0, hb_c39_1, (own_narb hb_v61), hb_c39_3, hb_c39_4, hb_c39_5, hb_c39_6, hb_c39_7, hb_c39_8, V71, pre72⟩
      · have pre73 : ∀ t, Steps p.tables e below (T39.setTop (mkF m 250 #[.val (.int p1), .val (.int p2), .val (.long q3), .second, .val (.long q4), .second, .val (.int p5), .val (.int p6), .val (.int (p1 &&& (3 : Int32))), .val (.int ((p2 &&& (2147483647 : Int32)) % (10 : Int32))), .val (.ref b1), .unset, .unset, .unset, .unset, .unset, .unset, .unset] [(.int v61), (.int (3 : Int32)), (.ref b1)])) t → Steps p.tables e below (s₁.setTop (entryFrame m #[(.int p1), (.int p2), (.long q3), (.long q4), (.int p5), (.int p6)] maxLocals)) t := fun t k => pre63 t (by rw [hk]; exact k)
        obtain ⟨cl74, Ar74, q74, S74, N74_, H74, G74⟩ := id V39
        obtain ⟨T74, h74, X74, e74, W74, st74⟩ := stC X39 hx hZ e39 Ar74 (j := (3 : Int32)) (inb_of S74 ⟨by decide, by decide⟩) (g := (mkF m 250 #[.val (.int p1), .val (.int p2), .val (.long q3), .second, .val (.long q4), .second, .val (.int p5), .val (.int p6), .val (.int (p1 &&& (3 : Int32))), .val (.int ((p2 &&& (2147483647 : Int32)) % (10 : Int32))), .val (.ref b1), .unset, .unset, .unset, .unset, .unset, .unset, .unset] [(.int v61), (.int (3 : Int32)), (.ref b1)])) rfl rfl (hb hby at_250)
        have V74 := Arv.set Ar74 q74 S74 N74_ H74 G74 (fits_nar_char _) W74 3 rfl (Nat.le_of_ble_eq_true rfl)
        have K74 : Keep h0 h74 [] := (K39).wr W74 (Or.inr sz_b1)
        have N74 := Fr.snoc X74 N39 g_b1
        have pre75 : ∀ t, Steps p.tables e below (T74.setTop (mkF m 251 #[.val (.int p1), .val (.int p2), .val (.long q3), .second, .val (.long q4), .second, .val (.int p5), .val (.int p6), .val (.int (p1 &&& (3 : Int32))), .val (.int ((p2 &&& (2147483647 : Int32)) % (10 : Int32))), .val (.ref b1), .unset, .unset, .unset, .unset, .unset, .unset, .unset] [])) t → Steps p.tables e below (s₁.setTop (entryFrame m #[(.int p1), (.int p2), (.long q3), (.long q4), (.int p5), (.int p6)] maxLocals)) t := fun t k => pre73 t (by
            show Steps p.tables e below (T39.setTop (mkF m 250 #[.val (.int p1), .val (.int p2), .val (.long q3), .second, .val (.long q4), .second, .val (.int p5), .val (.int p6), .val (.int (p1 &&& (3 : Int32))), .val (.int ((p2 &&& (2147483647 : Int32)) % (10 : Int32))), .val (.ref b1), .unset, .unset, .unset, .unset, .unset, .unset, .unset] [(.int v61), (.int (3 : Int32)), (.ref b1)])) _
            refine st74 _ ?_
            exact k)
        exact ⟨T74, h74, _, c39_0, c39_1, c39_2, (nar .char v61), c39_4, c39_5, c39_6, c39_7, c39_8, X74, e74, N74, K74, hb_c39_0, hb_c39_1, hb_c39_2, (own_narb hb_v61), hb_c39_4, hb_c39_5, hb_c39_6, hb_c39_7, hb_c39_8, V74, pre75⟩
      · have pre76 : ∀ t, Steps p.tables e below (T39.setTop (mkF m 250 #[.val (.int p1), .val (.int p2), .val (.long q3), .second, .val (.long q4), .second, .val (.int p5), .val (.int p6), .val (.int (p1 &&& (3 : Int32))), .val (.int ((p2 &&& (2147483647 : Int32)) % (10 : Int32))), .val (.ref b1), .unset, .unset, .unset, .unset, .unset, .unset, .unset] [(.int v61), (.int (4 : Int32)), (.ref b1)])) t → Steps p.tables e below (s₁.setTop (entryFrame m #[(.int p1), (.int p2), (.long q3), (.long q4), (.int p5), (.int p6)] maxLocals)) t := fun t k => pre63 t (by rw [hk]; exact k)
        obtain ⟨cl77, Ar77, q77, S77, N77_, H77, G77⟩ := id V39
        obtain ⟨T77, h77, X77, e77, W77, st77⟩ := stC X39 hx hZ e39 Ar77 (j := (4 : Int32)) (inb_of S77 ⟨by decide, by decide⟩) (g := (mkF m 250 #[.val (.int p1), .val (.int p2), .val (.long q3), .second, .val (.long q4), .second, .val (.int p5), .val (.int p6), .val (.int (p1 &&& (3 : Int32))), .val (.int ((p2 &&& (2147483647 : Int32)) % (10 : Int32))), .val (.ref b1), .unset, .unset, .unset, .unset, .unset, .unset, .unset] [(.int v61), (.int (4 : Int32)), (.ref b1)])) rfl rfl (hb hby at_250)
        have V77 := Arv.set Ar77 q77 S77 N77_ H77 G77 (fits_nar_char _) W77 4 rfl (Nat.le_of_ble_eq_true rfl)
        have K77 : Keep h0 h77 [] := (K39).wr W77 (Or.inr sz_b1)
        have N77 := Fr.snoc X77 N39 g_b1
        have pre78 : ∀ t, Steps p.tables e below (T77.setTop (mkF m 251 #[.val (.int p1), .val (.int p2), .val (.long q3), .second, .val (.long q4), .second, .val (.int p5), .val (.int p6), .val (.int (p1 &&& (3 : Int32))), .val (.int ((p2 &&& (2147483647 : Int32)) % (10 : Int32))), .val (.ref b1), .unset, .unset, .unset, .unset, .unset, .unset, .unset] [])) t → Steps p.tables e below (s₁.setTop (entryFrame m #[(.int p1), (.int p2), (.long q3), (.long q4), (.int p5), (.int p6)] maxLocals)) t := fun t k => pre76 t (by
            show Steps p.tables e below (T39.setTop (mkF m 250 #[.val (.int p1), .val (.int p2), .val (.long q3), .second, .val (.long q4), .second, .val (.int p5), .val (.int p6), .val (.int (p1 &&& (3 : Int32))), .val (.int ((p2 &&& (2147483647 : Int32)) % (10 : Int32))), .val (.ref b1), .unset, .unset, .unset, .unset, .unset, .unset, .unset] [(.int v61), (.int (4 : Int32)), (.ref b1)])) _
            refine st77 _ ?_
            exact k)
        exact ⟨T77, h77, _, c39_0, c39_1, c39_2, c39_3, (nar .char v61), c39_5, c39_6, c39_7, c39_8, X77, e77, N77, K77, hb_c39_0, hb_c39_1, hb_c39_2, hb_c39_3, (own_narb hb_v61), hb_c39_5, hb_c39_6, hb_c39_7, hb_c39_8, V77, pre78⟩
      · have pre79 : ∀ t, Steps p.tables e below (T39.setTop (mkF m 250 #[.val (.int p1), .val (.int p2), .val (.long q3), .second, .val (.long q4), .second, .val (.int p5), .val (.int p6), .val (.int (p1 &&& (3 : Int32))), .val (.int ((p2 &&& (2147483647 : Int32)) % (10 : Int32))), .val (.ref b1), .unset, .unset, .unset, .unset, .unset, .unset, .unset] [(.int v61), (.int (5 : Int32)), (.ref b1)])) t → Steps p.tables e below (s₁.setTop (entryFrame m #[(.int p1), (.int p2), (.long q3), (.long q4), (.int p5), (.int p6)] maxLocals)) t := fun t k => pre63 t (by rw [hk]; exact k)
        obtain ⟨cl80, Ar80, q80, S80, N80_, H80, G80⟩ := id V39
        obtain ⟨T80, h80, X80, e80, W80, st80⟩ := stC X39 hx hZ e39 Ar80 (j := (5 : Int32)) (inb_of S80 ⟨by decide, by decide⟩) (g := (mkF m 250 #[.val (.int p1), .val (.int p2), .val (.long q3), .second, .val (.long q4), .second, .val (.int p5), .val (.int p6), .val (.int (p1 &&& (3 : Int32))), .val (.int ((p2 &&& (2147483647 : Int32)) % (10 : Int32))), .val (.ref b1), .unset, .unset, .unset, .unset, .unset, .unset, .unset] [(.int v61), (.int (5 : Int32)), (.ref b1)])) rfl rfl (hb hby at_250)
        have V80 := Arv.set Ar80 q80 S80 N80_ H80 G80 (fits_nar_char _) W80 5 rfl (Nat.le_of_ble_eq_true rfl)
        have K80 : Keep h0 h80 [] := (K39).wr W80 (Or.inr sz_b1)
        have N80 := Fr.snoc X80 N39 g_b1
        have pre81 : ∀ t, Steps p.tables e below (T80.setTop (mkF m 251 #[.val (.int p1), .val (.int p2), .val (.long q3), .second, .val (.long q4), .second, .val (.int p5), .val (.int p6), .val (.int (p1 &&& (3 : Int32))), .val (.int ((p2 &&& (2147483647 : Int32)) % (10 : Int32))), .val (.ref b1), .unset, .unset, .unset, .unset, .unset, .unset, .unset] [])) t → Steps p.tables e below (s₁.setTop (entryFrame m #[(.int p1), (.int p2), (.long q3), (.long q4), (.int p5), (.int p6)] maxLocals)) t := fun t k => pre79 t (by
            show Steps p.tables e below (T39.setTop (mkF m 250 #[.val (.int p1), .val (.int p2), .val (.long q3), .second, .val (.long q4), .second, .val (.int p5), .val (.int p6), .val (.int (p1 &&& (3 : Int32))), .val (.int ((p2 &&& (2147483647 : Int32)) % (10 : Int32))), .val (.ref b1), .unset, .unset, .unset, .unset, .unset, .unset, .unset] [(.int v61), (.int (5 : Int32)), (.ref b1)])) _
            refine st80 _ ?_
            exact k)
        exact ⟨T80, h80, _, c39_0, c39_1, c39_2, c39_3, c39_4, (nar .char v61), c39_6, c39_7, c39_8, X80, e80, N80, K80, hb_c39_0, hb_c39_1, hb_c39_2, hb_c39_3, hb_c39_4, (own_narb hb_v61), hb_c39_6, hb_c39_7, hb_c39_8, V80, pre81⟩
      · have pre82 : ∀ t, Steps p.tables e below (T39.setTop (mkF m 250 #[.val (.int p1), .val (.int p2), .val (.long q3), .second, .val (.long q4), .second, .val (.int p5), .val (.int p6), .val (.int (p1 &&& (3 : Int32))), .val (.int ((p2 &&& (2147483647 : Int32)) % (10 : Int32))), .val (.ref b1), .unset, .unset, .unset, .unset, .unset, .unset, .unset] [(.int v61), (.int (6 : Int32)), (.ref b1)])) t → Steps p.tables e below (s₁.setTop (entryFrame m #[(.int p1), (.int p2), (.long q3), (.long q4), (.int p5), (.int p6)] maxLocals)) t := fun t k => pre63 t (by rw [hk]; exact k)
        obtain ⟨cl83, Ar83, q83, S83, N83_, H83, G83⟩ := id V39
        obtain ⟨T83, h83, X83, e83, W83, st83⟩ := stC X39 hx hZ e39 Ar83 (j := (6 : Int32)) (inb_of S83 ⟨by decide, by decide⟩) (g := (mkF m 250 #[.val (.int p1), .val (.int p2), .val (.long q3), .second, .val (.long q4), .second, .val (.int p5), .val (.int p6), .val (.int (p1 &&& (3 : Int32))), .val (.int ((p2 &&& (2147483647 : Int32)) % (10 : Int32))), .val (.ref b1), .unset, .unset, .unset, .unset, .unset, .unset, .unset] [(.int v61), (.int (6 : Int32)), (.ref b1)])) rfl rfl (hb hby at_250)
        have V83 := Arv.set Ar83 q83 S83 N83_ H83 G83 (fits_nar_char _) W83 6 rfl (Nat.le_of_ble_eq_true rfl)
        have K83 : Keep h0 h83 [] := (K39).wr W83 (Or.inr sz_b1)
        have N83 := Fr.snoc X83 N39 g_b1
        have pre84 : ∀ t, Steps p.tables e below (T83.setTop (mkF m 251 #[.val (.int p1), .val (.int p2), .val (.long q3), .second, .val (.long q4), .second, .val (.int p5), .val (.int p6), .val (.int (p1 &&& (3 : Int32))), .val (.int ((p2 &&& (2147483647 : Int32)) % (10 : Int32))), .val (.ref b1), .unset, .unset, .unset, .unset, .unset, .unset, .unset] [])) t → Steps p.tables e below (s₁.setTop (entryFrame m #[(.int p1), (.int p2), (.long q3), (.long q4), (.int p5), (.int p6)] maxLocals)) t := fun t k => pre82 t (by
            show Steps p.tables e below (T39.setTop (mkF m 250 #[.val (.int p1), .val (.int p2), .val (.long q3), .second, .val (.long q4), .second, .val (.int p5), .val (.int p6), .val (.int (p1 &&& (3 : Int32))), .val (.int ((p2 &&& (2147483647 : Int32)) % (10 : Int32))), .val (.ref b1), .unset, .unset, .unset, .unset, .unset, .unset, .unset] [(.int v61), (.int (6 : Int32)), (.ref b1)])) _
            refine st83 _ ?_
            exact k)
        exact ⟨T83, h83, _, c39_0, c39_1, c39_2, c39_3, c39_4, c39_5, (nar .char v61), c39_7, c39_8, X83, e83, N83, K83, hb_c39_0, hb_c39_1, hb_c39_2, hb_c39_3, hb_c39_4, hb_c39_5, (own_narb hb_v61), hb_c39_7, hb_c39_8, V83, pre84⟩
      · have pre85 : ∀ t, Steps p.tables e below (T39.setTop (mkF m 250 #[.val (.int p1), .val (.int p2), .val (.long q3), .second, .val (.long q4), .second, .val (.int p5), .val (.int p6), .val (.int (p1 &&& (3 : Int32))), .val (.int ((p2 &&& (2147483647 : Int32)) % (10 : Int32))), .val (.ref b1), .unset, .unset, .unset, .unset, .unset, .unset, .unset] [(.int v61), (.int (7 : Int32)), (.ref b1)])) t → Steps p.tables e below (s₁.setTop (entryFrame m #[(.int p1), (.int p2), (.long q3), (.long q4), (.int p5), (.int p6)] maxLocals)) t := fun t k => pre63 t (by rw [hk]; exact k)
        obtain ⟨cl86, Ar86, q86, S86, N86_, H86, G86⟩ := id V39
        obtain ⟨T86, h86, X86, e86, W86, st86⟩ := stC X39 hx hZ e39 Ar86 (j := (7 : Int32)) (inb_of S86 ⟨by decide, by decide⟩) (g := (mkF m 250 #[.val (.int p1), .val (.int p2), .val (.long q3), .second, .val (.long q4), .second, .val (.int p5), .val (.int p6), .val (.int (p1 &&& (3 : Int32))), .val (.int ((p2 &&& (2147483647 : Int32)) % (10 : Int32))), .val (.ref b1), .unset, .unset, .unset, .unset, .unset, .unset, .unset] [(.int v61), (.int (7 : Int32)), (.ref b1)])) rfl rfl (hb hby at_250)
        have V86 := Arv.set Ar86 q86 S86 N86_ H86 G86 (fits_nar_char _) W86 7 rfl (Nat.le_of_ble_eq_true rfl)
        have K86 : Keep h0 h86 [] := (K39).wr W86 (Or.inr sz_b1)
        have N86 := Fr.snoc X86 N39 g_b1
        have pre87 : ∀ t, Steps p.tables e below (T86.setTop (mkF m 251 #[.val (.int p1), .val (.int p2), .val (.long q3), .second, .val (.long q4), .second, .val (.int p5), .val (.int p6), .val (.int (p1 &&& (3 : Int32))), .val (.int ((p2 &&& (2147483647 : Int32)) % (10 : Int32))), .val (.ref b1), .unset, .unset, .unset, .unset, .unset, .unset, .unset] [])) t → Steps p.tables e below (s₁.setTop (entryFrame m #[(.int p1), (.int p2), (.long q3), (.long q4), (.int p5), (.int p6)] maxLocals)) t := fun t k => pre85 t (by
            show Steps p.tables e below (T39.setTop (mkF m 250 #[.val (.int p1), .val (.int p2), .val (.long q3), .second, .val (.long q4), .second, .val (.int p5), .val (.int p6), .val (.int (p1 &&& (3 : Int32))), .val (.int ((p2 &&& (2147483647 : Int32)) % (10 : Int32))), .val (.ref b1), .unset, .unset, .unset, .unset, .unset, .unset, .unset] [(.int v61), (.int (7 : Int32)), (.ref b1)])) _
            refine st86 _ ?_
            exact k)
        exact ⟨T86, h86, _, c39_0, c39_1, c39_2, c39_3, c39_4, c39_5, c39_6, (nar .char v61), c39_8, X86, e86, N86, K86, hb_c39_0, hb_c39_1, hb_c39_2, hb_c39_3, hb_c39_4, hb_c39_5, hb_c39_6, (own_narb hb_v61), hb_c39_8, V86, pre87⟩
      · have pre88 : ∀ t, Steps p.tables e below (T39.setTop (mkF m 250 #[.val (.int p1), .val (.int p2), .val (.long q3), .second, .val (.long q4), .second, .val (.int p5), .val (.int p6), .val (.int (p1 &&& (3 : Int32))), .val (.int ((p2 &&& (2147483647 : Int32)) % (10 : Int32))), .val (.ref b1), .unset, .unset, .unset, .unset, .unset, .unset, .unset] [(.int v61), (.int (8 : Int32)), (.ref b1)])) t → Steps p.tables e below (s₁.setTop (entryFrame m #[(.int p1), (.int p2), (.long q3), (.long q4), (.int p5), (.int p6)] maxLocals)) t := fun t k => pre63 t (by rw [hk]; exact k)
        obtain ⟨cl89, Ar89, q89, S89, N89_, H89, G89⟩ := id V39
        obtain ⟨T89, h89, X89, e89, W89, st89⟩ := stC X39 hx hZ e39 Ar89 (j := (8 : Int32)) (inb_of S89 ⟨by decide, by decide⟩) (g := (mkF m 250 #[.val (.int p1), .val (.int p2), .val (.long q3), .second, .val (.long q4), .second, .val (.int p5), .val (.int p6), .val (.int (p1 &&& (3 : Int32))), .val (.int ((p2 &&& (2147483647 : Int32)) % (10 : Int32))), .val (.ref b1), .unset, .unset, .unset, .unset, .unset, .unset, .unset] [(.int v61), (.int (8 : Int32)), (.ref b1)])) rfl rfl (hb hby at_250)
        have V89 := Arv.set Ar89 q89 S89 N89_ H89 G89 (fits_nar_char _) W89 8 rfl (Nat.le_of_ble_eq_true rfl)
        have K89 : Keep h0 h89 [] := (K39).wr W89 (Or.inr sz_b1)
        have N89 := Fr.snoc X89 N39 g_b1
        have pre90 : ∀ t, Steps p.tables e below (T89.setTop (mkF m 251 #[.val (.int p1), .val (.int p2), .val (.long q3), .second, .val (.long q4), .second, .val (.int p5), .val (.int p6), .val (.int (p1 &&& (3 : Int32))), .val (.int ((p2 &&& (2147483647 : Int32)) % (10 : Int32))), .val (.ref b1), .unset, .unset, .unset, .unset, .unset, .unset, .unset] [])) t → Steps p.tables e below (s₁.setTop (entryFrame m #[(.int p1), (.int p2), (.long q3), (.long q4), (.int p5), (.int p6)] maxLocals)) t := fun t k => pre88 t (by
            show Steps p.tables e below (T39.setTop (mkF m 250 #[.val (.int p1), .val (.int p2), .val (.long q3), .second, .val (.long q4), .second, .val (.int p5), .val (.int p6), .val (.int (p1 &&& (3 : Int32))), .val (.int ((p2 &&& (2147483647 : Int32)) % (10 : Int32))), .val (.ref b1), .unset, .unset, .unset, .unset, .unset, .unset, .unset] [(.int v61), (.int (8 : Int32)), (.ref b1)])) _
            refine st89 _ ?_
            exact k)
        exact ⟨T89, h89, _, c39_0, c39_1, c39_2, c39_3, c39_4, c39_5, c39_6, c39_7, (nar .char v61), X89, e89, N89, K89, hb_c39_0, hb_c39_1, hb_c39_2, hb_c39_3, hb_c39_4, hb_c39_5, hb_c39_6, hb_c39_7, (own_narb hb_v61), V89, pre90⟩
  by_cases hc91 : (p1 &&& (3 : Int32)) = (3 : Int32) ∧ ((p2 &&& (2147483647 : Int32)) % (10 : Int32)) = (0 : Int32)
  · obtain ⟨hz1, hz2⟩ := hc91
    obtain ⟨_, _, ⟨T92, L92, k92, n92⟩, -, X92, ⟨Lc92, hQ92, l92, y92, z92⟩, st92⟩ := Jvm.LawKit.callS X58 hx (y := (⟨"com/example/payspread/payspread/io/PaymentsFile$Format", "named", "(Ljava/lang/String;)Lcom/example/payspread/payspread/io/PaymentsFile$Format;"⟩ : MethodName)) hown (mvT hZ (hw _ (List.mem_of_getElem? (i := 36) rfl))) (mvT hZ (hw _ (List.mem_of_getElem? (i := 37) rfl))) (mvT hZ (hw _ (List.mem_of_getElem? (i := 38) rfl))) (mvT hZ (hw _ (List.mem_of_getElem? (i := 39) rfl))) (by decide) (backOf (W := 0) (rmN0 l Z a0 hw [] wV kV w_CSV w_CAMT_054 s0u s0t s0k s1u s1t s1k zc h58 n0 (Nat.le_trans Z0 K58.1) (Sta.ext (own_keep_ext K58) S_V) (V_V.ext (own_keep_ext K58)) (Exa.ext (own_keep_ext K58) E_V) (Fld.ext (own_keep_ext K58) s0F) (Exa.ext (own_keep_ext K58) s0E) (Fld.ext (own_keep_ext K58) s0V) (Fld.ext (own_keep_ext K58) s0C) (s0K.ext (own_keep_ext K58)) (Fld.ext (own_keep_ext K58) s1F) (Exa.ext (own_keep_ext K58) s1E) (Fld.ext (own_keep_ext K58) s1V) (Fld.ext (own_keep_ext K58) s1C) (s1K.ext (own_keep_ext K58)) (Sta.ext (own_keep_ext K58) S_C) hzc) hZ (hw _ (List.mem_of_getElem? (i := 39) rfl)) (hw _ (List.mem_of_getElem? (i := 38) rfl)) (by decide) (by decide)) (g := (mkF m 277 #[.val (.int p1), .val (.int p2), .val (.long q3), .second, .val (.long q4), .second, .val (.int p5), .val (.int p6), .val (.int (p1 &&& (3 : Int32))), .val (.int ((p2 &&& (2147483647 : Int32)) % (10 : Int32))), .val (.ref b1), .val .null, .unset, .unset, .unset, .unset, .unset, .unset] [.null])) rfl (by rw [hml]; rfl) (argsL := [.null]) (rest := []) (lenOf pd_rm0_0 rfl) rfl (by show 2 * 0 + _ ≤ _; exact Nat.le_of_eq rfl) (hb hby at_277) (fun _ _ => ⟨rfl, e58, (by decide : 1 + 1 ≤ _), (by decide : 9 + 2 ≤ _)⟩)
    dsimp only [Pt.U, Pt.locs, Pt.cells, Pt.slots] at X92 l92 y92 z92 st92 hQ92
    subst l92 y92 z92
    obtain ⟨rfl, N92q, E92q⟩ := hQ92
    have N92 := Fr.app N58 N92q
    have K92 : Keep h0 T92.heap [] := (K58).ext E92q
    obtain ⟨T93, X93, e93, st93⟩ := getS2 X92 hx hZ hown (host := "") (Or.inl (hw _ (List.mem_of_getElem? (i := 74) rfl))) Via.refl rfl (Sta.ext (own_keep_ext K92) S_CSV) (g := (mkF m 323 #[.val (.int p1), .val (.int p2), .val (.long q3), .second, .val (.long q4), .second, .val (.int p5), .val (.int p6), .val (.int (p1 &&& (3 : Int32))), .val (.int ((p2 &&& (2147483647 : Int32)) % (10 : Int32))), .val (.ref b1), .val .null, .val .null, .val .null, .unset, .unset, .unset, .unset] [])) rfl (hb hby at_323)
    obtain ⟨cq94, kq94, q94a, q94b, q94c⟩ := isOf hZ e93 (Exa.ext (own_keep_ext K92) E_CSV)
    obtain ⟨_, _, ⟨T94, L94, k94, n94⟩, -, X94, ⟨Lc94, hQ94, l94, y94, z94⟩, st94⟩ := X93.virtualBack hx (y := (⟨"com/example/payspread/payspread/io/PaymentsFile$Format", "formatName", "()Ljava/lang/String;"⟩ : MethodName)) (z := (⟨"com/example/payspread/payspread/io/PaymentsFile$Format", "formatName", "()Ljava/lang/String;"⟩ : MethodName)) hown (mvT hZ (hw _ (List.mem_of_getElem? (i := 75) rfl))) (mvT hZ (hw _ (List.mem_of_getElem? (i := 76) rfl))) (notFace_of_selects (args := #[]) (mvT hZ (hw _ (List.mem_of_getElem? (i := 78) rfl)))) (mvT hZ (hw _ (List.mem_of_getElem? (i := 78) rfl))) (mvT hZ (hw _ (List.mem_of_getElem? (i := 77) rfl))) (by decide) (backOf (W := 0) (rmG l Z a0 hw [] w_CSV s0u T92.heap n0 (Nat.le_trans Z0 K92.1) (Fld.ext (own_keep_ext K92) s0F)) hZ (hw _ (List.mem_of_getElem? (i := 79) rfl)) (hw _ (List.mem_of_getElem? (i := 38) rfl)) (by decide) (by decide)) q94a q94c (g := (mkF m 326 #[.val (.int p1), .val (.int p2), .val (.long q3), .second, .val (.long q4), .second, .val (.int p5), .val (.int p6), .val (.int (p1 &&& (3 : Int32))), .val (.int ((p2 &&& (2147483647 : Int32)) % (10 : Int32))), .val (.ref b1), .val .null, .val .null, .val .null, .unset, .unset, .unset, .unset] [(.ref w_CSV)])) rfl (by rw [hml]; rfl) (Steps.refl _) (argsL := []) (rest := []) (lenOf pd_rm0_1 rfl) rfl (by show 2 * 0 + _ ≤ _; exact Nat.le_of_eq rfl) (hb hby at_326) (fun _ _ => ⟨rfl, e93, (by decide : 2 + 0 ≤ _), (by decide : 11 + 0 ≤ _)⟩)
    dsimp only [Pt.U, Pt.locs, Pt.cells, Pt.slots] at X94 l94 y94 z94 st94 hQ94
    subst l94 y94 z94
    obtain ⟨rfl, N94q, e94⟩ := hQ94
    have N94 := Fr.app N92 N94q
    obtain ⟨T95, X95, e95, st95⟩ := getS2 X94 hx hZ hown (host := "") (Or.inl (hw _ (List.mem_of_getElem? (i := 80) rfl))) Via.refl e94 (Sta.ext (own_keep_ext K92) S_CAMT_054) (g := (mkF m 331 #[.val (.int p1), .val (.int p2), .val (.long q3), .second, .val (.long q4), .second, .val (.int p5), .val (.int p6), .val (.int (p1 &&& (3 : Int32))), .val (.int ((p2 &&& (2147483647 : Int32)) % (10 : Int32))), .val (.ref b1), .val .null, .val .null, .val .null, .val (.ref s0u), .unset, .unset, .unset] [])) rfl (hb hby at_331)
    obtain ⟨cq96, kq96, q96a, q96b, q96c⟩ := isOf hZ e95 (Exa.ext (own_keep_ext K92) E_CAMT_054)
    obtain ⟨_, _, ⟨T96, L96, k96, n96⟩, -, X96, ⟨Lc96, hQ96, l96, y96, z96⟩, st96⟩ := X95.virtualBack hx (y := (⟨"com/example/payspread/payspread/io/PaymentsFile$Format", "formatName", "()Ljava/lang/String;"⟩ : MethodName)) (z := (⟨"com/example/payspread/payspread/io/PaymentsFile$Format", "formatName", "()Ljava/lang/String;"⟩ : MethodName)) hown (mvT hZ (hw _ (List.mem_of_getElem? (i := 75) rfl))) (mvT hZ (hw _ (List.mem_of_getElem? (i := 76) rfl))) (notFace_of_selects (args := #[]) (mvT hZ (hw _ (List.mem_of_getElem? (i := 78) rfl)))) (mvT hZ (hw _ (List.mem_of_getElem? (i := 78) rfl))) (mvT hZ (hw _ (List.mem_of_getElem? (i := 77) rfl))) (by decide) (backOf (W := 0) (rmG l Z a0 hw [] w_CAMT_054 s1u T92.heap n0 (Nat.le_trans Z0 K92.1) (Fld.ext (own_keep_ext K92) s1F)) hZ (hw _ (List.mem_of_getElem? (i := 79) rfl)) (hw _ (List.mem_of_getElem? (i := 38) rfl)) (by decide) (by decide)) q96a q96c (g := (mkF m 334 #[.val (.int p1), .val (.int p2), .val (.long q3), .second, .val (.long q4), .second, .val (.int p5), .val (.int p6), .val (.int (p1 &&& (3 : Int32))), .val (.int ((p2 &&& (2147483647 : Int32)) % (10 : Int32))), .val (.ref b1), .val .null, .val .null, .val .null, .val (.ref s0u), .unset, .unset, .unset] [(.ref w_CAMT_054)])) rfl (by rw [hml]; rfl) (Steps.refl _) (argsL := []) (rest := []) (lenOf pd_rm0_1 rfl) rfl (by show 2 * 0 + _ ≤ _; exact Nat.le_of_eq rfl) (hb hby at_334) (fun _ _ => ⟨rfl, e95, (by decide : 2 + 0 ≤ _), (by decide : 11 + 0 ≤ _)⟩)
    dsimp only [Pt.U, Pt.locs, Pt.cells, Pt.slots] at X96 l96 y96 z96 st96 hQ96
    subst l96 y96 z96
    obtain ⟨rfl, N96q, e96⟩ := hQ96
    have N96 := Fr.app N94 N96q
    obtain ⟨sa97, T97, h97, kk97, sb97, sk97, X97r, e97, E97, hSa97, hka97, hZ97, hown97, A97, C97, V97, K97v, la97, lb97, I97, L97, st97⟩ := ldcSVL (s := (s.setVm s.vm)) (vm0 := s.vm) (Ts := []) X96 hx hZ hown (hw _ (List.mem_of_getElem? (i := 69) rfl)) hwsS e96 ((State.WarmedH.refl (s.setVm s.vm)).since 0) (Nat.zero_le _) (show Fr s.heap.size _ by rw [hh, ← hn0]; exact N96) (fun b cl q => by show s.heap[b]? = some cl; rw [hh]; exact hkeepZ b cl q) I0 (by decide) hh22 hcw (vs := (cs0.map Value.int)) (z := (3 : Int32)) ⟨by decide, by rfl⟩ (by decide) (by rfl) (g := (mkF m 339 #[.val (.int p1), .val (.int p2), .val (.long q3), .second, .val (.long q4), .second, .val (.int p5), .val (.int p6), .val (.int (p1 &&& (3 : Int32))), .val (.int ((p2 &&& (2147483647 : Int32)) % (10 : Int32))), .val (.ref b1), .val .null, .val .null, .val .null, .val (.ref s0u), .val (.ref s1u), .unset, .unset] [])) rfl (hb hby at_339) (n := 12) (by decide) (by decide) (by decide) (by decide)
    have hS97 : s.Since T97.vm h97.size := State.Since.trans hS0 ⟨hSa97.1, hSa97.2.mono hka97⟩ (Nat.le_trans (Nat.le_trans (Nat.le_trans (Nat.zero_le _) ((own_keep_ext K58)).1) (E92q).1) E97.1)
    have X97 : Stand p l e room_1 (s.setVm T97.vm) m #[(.int p1), (.int p2), (.long q3), (.long q4), (.int p5), (.int p6)] below meth c T97 _ _ _ := X97r
    have K97 : Keep h0 h97 [] := (K92).ext E97
    have f98 := (Exa.ext E97 (Exa.ext E92q (Exa.ext (own_keep_ext K58) s0E)))
    have f99 := (Fld.ext E97 (Fld.ext E92q (Fld.ext (own_keep_ext K58) s0V)))
    have f100 := (Fld.ext E97 (Fld.ext E92q (Fld.ext (own_keep_ext K58) s0C)))
    have f101 := (((s0K.ext (own_keep_ext K58)).ext E92q).ext E97)
    obtain ⟨cq102, kq102, q102a, q102b, q102c⟩ := isOf hZ97 e97 A97
    obtain ⟨_, _, ⟨T102, L102, k102, n102⟩, -, X102, ⟨Lc102, hQ102, l102, y102, z102⟩, st102⟩ := X97.virtualBack hx (y := (⟨"java/lang/String", "equals", "(Ljava/lang/Object;)Z"⟩ : MethodName)) (z := (⟨"java/lang/String", "equals", "(Ljava/lang/Object;)Z"⟩ : MethodName)) hown97 (mvT hZ97 (hw _ (List.mem_of_getElem? (i := 72) rfl))) (mvT hZ97 (hw _ (List.mem_of_getElem? (i := 60) rfl))) (notFace_of_selects (args := #[]) (mvT hZ97 (hw _ (List.mem_of_getElem? (i := 62) rfl)))) (mvT hZ97 (hw _ (List.mem_of_getElem? (i := 62) rfl))) (mvT hZ97 (hw _ (List.mem_of_getElem? (i := 61) rfl))) (by decide) (StrChars.Road.eqW (W := 0) hZ97 hwsE (kI := 4) (hw _ (List.mem_of_getElem? (i := 8) rfl)) A97 V97 C97 K97v own_cod0 own_b0 (by decide) f98 f99 f100 f101 own_cod0 own_b0 (by decide) (Sta.ext (own_keep_ext K97) S_C) hzc (by decide) (by decide)) q102a q102c (g := (mkF m 343 #[.val (.int p1), .val (.int p2), .val (.long q3), .second, .val (.long q4), .second, .val (.int p5), .val (.int p6), .val (.int (p1 &&& (3 : Int32))), .val (.int ((p2 &&& (2147483647 : Int32)) % (10 : Int32))), .val (.ref b1), .val .null, .val .null, .val .null, .val (.ref s0u), .val (.ref s1u), .unset, .unset] [(.ref s0u), (.ref sa97)])) rfl (by rw [hml]; rfl) (Steps.refl _) (argsL := [(.ref s0u)]) (rest := []) (lenOf pd_rm0_2 rfl) rfl (by show 2 * 0 + _ ≤ _; exact Nat.le_of_eq rfl) (hb hby at_343) (fun _ _ => ⟨rfl, e97, (by decide : 4 + 0 ≤ _), (by decide : 27 + 0 ≤ _)⟩)
    dsimp only [Pt.U, Pt.locs, Pt.cells, Pt.slots] at X102 l102 y102 z102 st102 hQ102
    subst l102 y102 z102
    rcases hQ102 with ⟨⟨hv102, hd102⟩ | ⟨hv102, hd102⟩, hl102, e102⟩
    rotate_left
    · exact absurd rfl hd102
    subst hv102 hl102
    have N102 := Fr.app N96 (Fr.nil n0)
    obtain ⟨sa103, T103, h103, kk103, sb103, sk103, X103r, e103, E103, hSa103, hka103, hZ103, hown103, A103, C103, V103, K103v, la103, lb103, I103, L103, st103⟩ := ldcSVL (s := (s.setVm T97.vm)) (vm0 := T97.vm) (Ts := ["csv"]) X102 hx hZ97 hown97 (hw _ (List.mem_of_getElem? (i := 73) rfl)) hwsS e102 ((State.WarmedH.refl (s.setVm T97.vm)).since 0) (Nat.zero_le _) (show Fr s.heap.size _ by rw [hh, ← hn0]; exact N102) (fun b cl q => by show s.heap[b]? = some cl; rw [hh]; exact hkeepZ b cl q) I97 (by decide) hh34 hcw (vs := (cs1.map Value.int)) (z := (8 : Int32)) ⟨by decide, by rfl⟩ (by decide) (by rfl) (g := (mkF m 349 #[.val (.int p1), .val (.int p2), .val (.long q3), .second, .val (.long q4), .second, .val (.int p5), .val (.int p6), .val (.int (p1 &&& (3 : Int32))), .val (.int ((p2 &&& (2147483647 : Int32)) % (10 : Int32))), .val (.ref b1), .val .null, .val .null, .val .null, .val (.ref s0u), .val (.ref s1u), .unset, .unset] [])) rfl (hb hby at_349) (n := 32) (by decide) (by decide) (by decide) (by decide)
    have hS103 : s.Since T103.vm h103.size := State.Since.trans hS97 ⟨hSa103.1, hSa103.2.mono hka103⟩ (Nat.le_trans (Nat.le_refl h97.size) E103.1)
    have X103 : Stand p l e room_1 (s.setVm T103.vm) m #[(.int p1), (.int p2), (.long q3), (.long q4), (.int p5), (.int p6)] below meth c T103 _ _ _ := X103r
    have L97_103 := Lit.stays (s := s) (vm0 := T97.vm) L97 hSa103.1
    have K103 : Keep h0 h103 [] := (K97).ext E103
    have f104 := (Exa.ext E103 (Exa.ext E97 (Exa.ext E92q (Exa.ext (own_keep_ext K58) s1E))))
    have f105 := (Fld.ext E103 (Fld.ext E97 (Fld.ext E92q (Fld.ext (own_keep_ext K58) s1V))))
    have f106 := (Fld.ext E103 (Fld.ext E97 (Fld.ext E92q (Fld.ext (own_keep_ext K58) s1C))))
    have f107 := ((((s1K.ext (own_keep_ext K58)).ext E92q).ext E97).ext E103)
    obtain ⟨cq108, kq108, q108a, q108b, q108c⟩ := isOf hZ103 e103 A103
    obtain ⟨_, _, ⟨T108, L108, k108, n108⟩, -, X108, ⟨Lc108, hQ108, l108, y108, z108⟩, st108⟩ := X103.virtualBack hx (y := (⟨"java/lang/String", "equals", "(Ljava/lang/Object;)Z"⟩ : MethodName)) (z := (⟨"java/lang/String", "equals", "(Ljava/lang/Object;)Z"⟩ : MethodName)) hown103 (mvT hZ103 (hw _ (List.mem_of_getElem? (i := 72) rfl))) (mvT hZ103 (hw _ (List.mem_of_getElem? (i := 60) rfl))) (notFace_of_selects (args := #[]) (mvT hZ103 (hw _ (List.mem_of_getElem? (i := 62) rfl)))) (mvT hZ103 (hw _ (List.mem_of_getElem? (i := 62) rfl))) (mvT hZ103 (hw _ (List.mem_of_getElem? (i := 61) rfl))) (by decide) (StrChars.Road.eqW (W := 0) hZ103 hwsE (kI := 4) (hw _ (List.mem_of_getElem? (i := 8) rfl)) A103 V103 C103 K103v own_cod1 own_b1 (by decide) f104 f105 f106 f107 own_cod1 own_b1 (by decide) (Sta.ext (own_keep_ext K103) S_C) hzc (by decide) (by decide)) q108a q108c (g := (mkF m 353 #[.val (.int p1), .val (.int p2), .val (.long q3), .second, .val (.long q4), .second, .val (.int p5), .val (.int p6), .val (.int (p1 &&& (3 : Int32))), .val (.int ((p2 &&& (2147483647 : Int32)) % (10 : Int32))), .val (.ref b1), .val .null, .val .null, .val .null, .val (.ref s0u), .val (.ref s1u), .unset, .unset] [(.ref s1u), (.ref sa103)])) rfl (by rw [hml]; rfl) (Steps.refl _) (argsL := [(.ref s1u)]) (rest := []) (lenOf pd_rm0_2 rfl) rfl (by show 2 * 0 + _ ≤ _; exact Nat.le_of_eq rfl) (hb hby at_353) (fun _ _ => ⟨rfl, e103, (by decide : 6 + 0 ≤ _), (by decide : 63 + 0 ≤ _)⟩)
    dsimp only [Pt.U, Pt.locs, Pt.cells, Pt.slots] at X108 l108 y108 z108 st108 hQ108
    subst l108 y108 z108
    rcases hQ108 with ⟨⟨hv108, hd108⟩ | ⟨hv108, hd108⟩, hl108, e108⟩
    rotate_left
    · exact absurd rfl hd108
    subst hv108 hl108
    have N108 := Fr.app N102 (Fr.nil n0)
    have f109 := (Exa.ext E103 f98)
    have f110 := (Fld.ext E103 f99)
    have f111 := (Fld.ext E103 f100)
    have f112 := (f101.ext E103)
    obtain ⟨_, _, ⟨T113, L113, k113, n113⟩, -, X113, ⟨Lc113, hQ113, l113, y113, z113⟩, st113⟩ := Jvm.LawKit.callS X108 hx (y := (⟨"com/example/payspread/payspread/io/PaymentsFile$Format", "named", "(Ljava/lang/String;)Lcom/example/payspread/payspread/io/PaymentsFile$Format;"⟩ : MethodName)) hown103 (mvT hZ103 (hw _ (List.mem_of_getElem? (i := 36) rfl))) (mvT hZ103 (hw _ (List.mem_of_getElem? (i := 37) rfl))) (mvT hZ103 (hw _ (List.mem_of_getElem? (i := 38) rfl))) (mvT hZ103 (hw _ (List.mem_of_getElem? (i := 39) rfl))) (by decide) (backOf (W := 0) (rmN l Z a0 hw [] s0u s0t s0k cs0 (3 : Int32) (cs0.map Value.int) (.ref w_CSV) wV kV w_CSV w_CAMT_054 s0u s0t s0k s1u s1t s1k zc h103 n0 (Nat.le_trans Z0 K103.1) f109 f110 f111 f112 own_cod0 own_b0 (by decide) (Or.inl ⟨rfl, rfl⟩) (Sta.ext (own_keep_ext K103) S_V) (V_V.ext (own_keep_ext K103)) (Exa.ext (own_keep_ext K103) E_V) (Fld.ext (own_keep_ext K103) s0F) (Exa.ext (own_keep_ext K103) s0E) (Fld.ext (own_keep_ext K103) s0V) (Fld.ext (own_keep_ext K103) s0C) (s0K.ext (own_keep_ext K103)) (Fld.ext (own_keep_ext K103) s1F) (Exa.ext (own_keep_ext K103) s1E) (Fld.ext (own_keep_ext K103) s1V) (Fld.ext (own_keep_ext K103) s1C) (s1K.ext (own_keep_ext K103)) (Sta.ext (own_keep_ext K103) S_C) hzc) hZ103 (hw _ (List.mem_of_getElem? (i := 39) rfl)) (hw _ (List.mem_of_getElem? (i := 38) rfl)) (by decide) (by decide)) (g := (mkF m 368 #[.val (.int p1), .val (.int p2), .val (.long q3), .second, .val (.long q4), .second, .val (.int p5), .val (.int p6), .val (.int (p1 &&& (3 : Int32))), .val (.int ((p2 &&& (2147483647 : Int32)) % (10 : Int32))), .val (.ref b1), .val .null, .val .null, .val .null, .val (.ref s0u), .val (.ref s1u), .val (.int (1 : Int32)), .unset] [(.ref s0u)])) rfl (by rw [hml]; rfl) (argsL := [(.ref s0u)]) (rest := []) (lenOf pd_rm0_0 rfl) rfl (by show 2 * 0 + _ ≤ _; exact Nat.le_of_eq rfl) (hb hby at_368) (fun _ _ => ⟨rfl, e108, (by decide : 6 + 1 ≤ _), (by decide : 63 + 2 ≤ _)⟩)
    dsimp only [Pt.U, Pt.locs, Pt.cells, Pt.slots] at X113 l113 y113 z113 st113 hQ113
    subst l113 y113 z113
    obtain ⟨rfl, N113q, E113q⟩ := hQ113
    have N113 := Fr.app N108 N113q
    have K113 : Keep h0 T113.heap [] := (K103).ext E113q
    obtain ⟨T114, X114, e114, st114⟩ := getS2 X113 hx hZ103 hown103 (host := "") (Or.inl (hw _ (List.mem_of_getElem? (i := 74) rfl))) Via.refl rfl (Sta.ext (own_keep_ext K113) S_CSV) (g := (mkF m 371 #[.val (.int p1), .val (.int p2), .val (.long q3), .second, .val (.long q4), .second, .val (.int p5), .val (.int p6), .val (.int (p1 &&& (3 : Int32))), .val (.int ((p2 &&& (2147483647 : Int32)) % (10 : Int32))), .val (.ref b1), .val .null, .val .null, .val .null, .val (.ref s0u), .val (.ref s1u), .val (.int (1 : Int32)), .unset] [(.ref w_CSV)])) rfl (hb hby at_371)
    have f115 := (Exa.ext E113q f104)
    have f116 := (Fld.ext E113q f105)
    have f117 := (Fld.ext E113q f106)
    have f118 := (f107.ext E113q)
    obtain ⟨_, _, ⟨T119, L119, k119, n119⟩, -, X119, ⟨Lc119, hQ119, l119, y119, z119⟩, st119⟩ := Jvm.LawKit.callS X114 hx (y := (⟨"com/example/payspread/payspread/io/PaymentsFile$Format", "named", "(Ljava/lang/String;)Lcom/example/payspread/payspread/io/PaymentsFile$Format;"⟩ : MethodName)) hown103 (mvT hZ103 (hw _ (List.mem_of_getElem? (i := 36) rfl))) (mvT hZ103 (hw _ (List.mem_of_getElem? (i := 37) rfl))) (mvT hZ103 (hw _ (List.mem_of_getElem? (i := 38) rfl))) (mvT hZ103 (hw _ (List.mem_of_getElem? (i := 39) rfl))) (by decide) (backOf (W := 0) (rmN l Z a0 hw [] s1u s1t s1k cs1 (8 : Int32) (cs1.map Value.int) (.ref w_CAMT_054) wV kV w_CSV w_CAMT_054 s0u s0t s0k s1u s1t s1k zc T113.heap n0 (Nat.le_trans Z0 K113.1) f115 f116 f117 f118 own_cod1 own_b1 (by decide) (Or.inr (Or.inl ⟨own_ne10, rfl, rfl⟩)) (Sta.ext (own_keep_ext K113) S_V) (V_V.ext (own_keep_ext K113)) (Exa.ext (own_keep_ext K113) E_V) (Fld.ext (own_keep_ext K113) s0F) (Exa.ext (own_keep_ext K113) s0E) (Fld.ext (own_keep_ext K113) s0V) (Fld.ext (own_keep_ext K113) s0C) (s0K.ext (own_keep_ext K113)) (Fld.ext (own_keep_ext K113) s1F) (Exa.ext (own_keep_ext K113) s1E) (Fld.ext (own_keep_ext K113) s1V) (Fld.ext (own_keep_ext K113) s1C) (s1K.ext (own_keep_ext K113)) (Sta.ext (own_keep_ext K113) S_C) hzc) hZ103 (hw _ (List.mem_of_getElem? (i := 39) rfl)) (hw _ (List.mem_of_getElem? (i := 38) rfl)) (by decide) (by decide)) (g := (mkF m 379 #[.val (.int p1), .val (.int p2), .val (.long q3), .second, .val (.long q4), .second, .val (.int p5), .val (.int p6), .val (.int (p1 &&& (3 : Int32))), .val (.int ((p2 &&& (2147483647 : Int32)) % (10 : Int32))), .val (.ref b1), .val .null, .val .null, .val .null, .val (.ref s0u), .val (.ref s1u), .val (.int (1 : Int32)), .unset] [(.ref s1u)])) rfl (by rw [hml]; rfl) (argsL := [(.ref s1u)]) (rest := []) (lenOf pd_rm0_0 rfl) rfl (by show 2 * 0 + _ ≤ _; exact Nat.le_of_eq rfl) (hb hby at_379) (fun _ _ => ⟨rfl, e114, (by decide : 7 + 1 ≤ _), (by decide : 65 + 2 ≤ _)⟩)
    dsimp only [Pt.U, Pt.locs, Pt.cells, Pt.slots] at X119 l119 y119 z119 st119 hQ119
    subst l119 y119 z119
    obtain ⟨rfl, N119q, E119q⟩ := hQ119
    have N119 := Fr.app N113 N119q
    have K119 : Keep h0 T119.heap [] := (K113).ext E119q
    obtain ⟨T120, X120, e120, st120⟩ := getS2 X119 hx hZ103 hown103 (host := "") (Or.inl (hw _ (List.mem_of_getElem? (i := 80) rfl))) Via.refl rfl (Sta.ext (own_keep_ext K119) S_CAMT_054) (g := (mkF m 382 #[.val (.int p1), .val (.int p2), .val (.long q3), .second, .val (.long q4), .second, .val (.int p5), .val (.int p6), .val (.int (p1 &&& (3 : Int32))), .val (.int ((p2 &&& (2147483647 : Int32)) % (10 : Int32))), .val (.ref b1), .val .null, .val .null, .val .null, .val (.ref s0u), .val (.ref s1u), .val (.int (1 : Int32)), .unset] [(.ref w_CAMT_054)])) rfl (hb hby at_382)
    obtain ⟨fs, hr, hrun, hended, hRW⟩ := Jvm.Stand.leaveW (s := s) (vm₁ := T103.vm) X120 hS103 (show _ ≤ T120.heap.size by rw [e120]; exact (Nat.le_trans (Nat.le_trans (Nat.le_refl h103.size) (E113q).1) (E119q).1)) (v := some (.int (1 : Int32))) (fun h => by rw [Bd.returns] at h; cases h)
    refine ⟨_, _, pre58 _ ?_, hrun, hended, _, _, rfl, ?_, hRW.1, hRW.2.1, hRW.2.2.1, hRW.2.2.2.mono (by decide) (by decide)⟩
    · show Steps p.tables e below (T58.setTop (mkF m 251 #[.val (.int p1), .val (.int p2), .val (.long q3), .second, .val (.long q4), .second, .val (.int p5), .val (.int p6), .val (.int (p1 &&& (3 : Int32))), .val (.int ((p2 &&& (2147483647 : Int32)) % (10 : Int32))), .val (.ref b1), .unset, .unset, .unset, .unset, .unset, .unset, .unset] [])) _
      refine XS.iload X58.here hx rfl (hb hby at_251) rfl ?_
      show Steps p.tables e below (T58.setTop (mkF m 253 #[.val (.int p1), .val (.int p2), .val (.long q3), .second, .val (.long q4), .second, .val (.int p5), .val (.int p6), .val (.int (p1 &&& (3 : Int32))), .val (.int ((p2 &&& (2147483647 : Int32)) % (10 : Int32))), .val (.ref b1), .unset, .unset, .unset, .unset, .unset, .unset, .unset] [(.int (p1 &&& (3 : Int32)))])) _
      refine XS.iconst X58.here hx rfl (hb hby at_253) ?_
      show Steps p.tables e below (T58.setTop (mkF m 254 #[.val (.int p1), .val (.int p2), .val (.long q3), .second, .val (.long q4), .second, .val (.int p5), .val (.int p6), .val (.int (p1 &&& (3 : Int32))), .val (.int ((p2 &&& (2147483647 : Int32)) % (10 : Int32))), .val (.ref b1), .unset, .unset, .unset, .unset, .unset, .unset, .unset] [(.int (3 : Int32)), (.int (p1 &&& (3 : Int32)))])) _
      refine XS.icmpNo X58.here hx rfl (hb hby at_254) rfl (teq hz1).2 ?_
      show Steps p.tables e below (T58.setTop (mkF m 257 #[.val (.int p1), .val (.int p2), .val (.long q3), .second, .val (.long q4), .second, .val (.int p5), .val (.int p6), .val (.int (p1 &&& (3 : Int32))), .val (.int ((p2 &&& (2147483647 : Int32)) % (10 : Int32))), .val (.ref b1), .unset, .unset, .unset, .unset, .unset, .unset, .unset] [])) _
      refine XS.iload X58.here hx rfl (hb hby at_257) rfl ?_
      show Steps p.tables e below (T58.setTop (mkF m 259 #[.val (.int p1), .val (.int p2), .val (.long q3), .second, .val (.long q4), .second, .val (.int p5), .val (.int p6), .val (.int (p1 &&& (3 : Int32))), .val (.int ((p2 &&& (2147483647 : Int32)) % (10 : Int32))), .val (.ref b1), .unset, .unset, .unset, .unset, .unset, .unset, .unset] [(.int ((p2 &&& (2147483647 : Int32)) % (10 : Int32)))])) _
      refine XS.ifNo X58.here hx rfl (hb hby at_259) rfl ((if0 _ _).trans (teq hz2).2) ?_
      show Steps p.tables e below (T58.setTop (mkF m 262 #[.val (.int p1), .val (.int p2), .val (.long q3), .second, .val (.long q4), .second, .val (.int p5), .val (.int p6), .val (.int (p1 &&& (3 : Int32))), .val (.int ((p2 &&& (2147483647 : Int32)) % (10 : Int32))), .val (.ref b1), .unset, .unset, .unset, .unset, .unset, .unset, .unset] [])) _
      refine XS.aconstNull X58.here hx rfl (hb hby at_262) ?_
      show Steps p.tables e below (T58.setTop (mkF m 263 #[.val (.int p1), .val (.int p2), .val (.long q3), .second, .val (.long q4), .second, .val (.int p5), .val (.int p6), .val (.int (p1 &&& (3 : Int32))), .val (.int ((p2 &&& (2147483647 : Int32)) % (10 : Int32))), .val (.ref b1), .unset, .unset, .unset, .unset, .unset, .unset, .unset] [.null])) _
      refine XS.goto X58.here hx rfl (pc0 := 263) (pc' := 273) rfl (hb hby at_263) (by decide) (by decide) ?_
      show Steps p.tables e below (T58.setTop (mkF m 273 #[.val (.int p1), .val (.int p2), .val (.long q3), .second, .val (.long q4), .second, .val (.int p5), .val (.int p6), .val (.int (p1 &&& (3 : Int32))), .val (.int ((p2 &&& (2147483647 : Int32)) % (10 : Int32))), .val (.ref b1), .unset, .unset, .unset, .unset, .unset, .unset, .unset] [.null])) _
      refine XS.astore X58.here hx rfl (hb hby at_273) rfl rfl (l' := #[.val (.int p1), .val (.int p2), .val (.long q3), .second, .val (.long q4), .second, .val (.int p5), .val (.int p6), .val (.int (p1 &&& (3 : Int32))), .val (.int ((p2 &&& (2147483647 : Int32)) % (10 : Int32))), .val (.ref b1), .val .null, .unset, .unset, .unset, .unset, .unset, .unset]) rfl ?_
      show Steps p.tables e below (T58.setTop (mkF m 275 #[.val (.int p1), .val (.int p2), .val (.long q3), .second, .val (.long q4), .second, .val (.int p5), .val (.int p6), .val (.int (p1 &&& (3 : Int32))), .val (.int ((p2 &&& (2147483647 : Int32)) % (10 : Int32))), .val (.ref b1), .val .null, .unset, .unset, .unset, .unset, .unset, .unset] [])) _
      refine XS.aload X58.here hx rfl (hb hby at_275) rfl rfl ?_
      show Steps p.tables e below (T58.setTop (mkF m 277 #[.val (.int p1), .val (.int p2), .val (.long q3), .second, .val (.long q4), .second, .val (.int p5), .val (.int p6), .val (.int (p1 &&& (3 : Int32))), .val (.int ((p2 &&& (2147483647 : Int32)) % (10 : Int32))), .val (.ref b1), .val .null, .unset, .unset, .unset, .unset, .unset, .unset] [.null])) _
      refine st92 _ ?_
      show Steps p.tables e below (T92.setTop (mkF m 280 #[.val (.int p1), .val (.int p2), .val (.long q3), .second, .val (.long q4), .second, .val (.int p5), .val (.int p6), .val (.int (p1 &&& (3 : Int32))), .val (.int ((p2 &&& (2147483647 : Int32)) % (10 : Int32))), .val (.ref b1), .val .null, .unset, .unset, .unset, .unset, .unset, .unset] [.null])) _
      refine XS.astore X92.here hx rfl (hb hby at_280) rfl rfl (l' := #[.val (.int p1), .val (.int p2), .val (.long q3), .second, .val (.long q4), .second, .val (.int p5), .val (.int p6), .val (.int (p1 &&& (3 : Int32))), .val (.int ((p2 &&& (2147483647 : Int32)) % (10 : Int32))), .val (.ref b1), .val .null, .val .null, .unset, .unset, .unset, .unset, .unset]) rfl ?_
      show Steps p.tables e below (T92.setTop (mkF m 282 #[.val (.int p1), .val (.int p2), .val (.long q3), .second, .val (.long q4), .second, .val (.int p5), .val (.int p6), .val (.int (p1 &&& (3 : Int32))), .val (.int ((p2 &&& (2147483647 : Int32)) % (10 : Int32))), .val (.ref b1), .val .null, .val .null, .unset, .unset, .unset, .unset, .unset] [])) _
      refine XS.aconstNull X92.here hx rfl (hb hby at_282) ?_
      show Steps p.tables e below (T92.setTop (mkF m 283 #[.val (.int p1), .val (.int p2), .val (.long q3), .second, .val (.long q4), .second, .val (.int p5), .val (.int p6), .val (.int (p1 &&& (3 : Int32))), .val (.int ((p2 &&& (2147483647 : Int32)) % (10 : Int32))), .val (.ref b1), .val .null, .val .null, .unset, .unset, .unset, .unset, .unset] [.null])) _
      refine XS.astore X92.here hx rfl (hb hby at_283) rfl rfl (l' := #[.val (.int p1), .val (.int p2), .val (.long q3), .second, .val (.long q4), .second, .val (.int p5), .val (.int p6), .val (.int (p1 &&& (3 : Int32))), .val (.int ((p2 &&& (2147483647 : Int32)) % (10 : Int32))), .val (.ref b1), .val .null, .val .null, .val .null, .unset, .unset, .unset, .unset]) rfl ?_
      show Steps p.tables e below (T92.setTop (mkF m 285 #[.val (.int p1), .val (.int p2), .val (.long q3), .second, .val (.long q4), .second, .val (.int p5), .val (.int p6), .val (.int (p1 &&& (3 : Int32))), .val (.int ((p2 &&& (2147483647 : Int32)) % (10 : Int32))), .val (.ref b1), .val .null, .val .null, .val .null, .unset, .unset, .unset, .unset] [])) _
      refine XS.aload X92.here hx rfl (hb hby at_285) rfl rfl ?_
      show Steps p.tables e below (T92.setTop (mkF m 287 #[.val (.int p1), .val (.int p2), .val (.long q3), .second, .val (.long q4), .second, .val (.int p5), .val (.int p6), .val (.int (p1 &&& (3 : Int32))), .val (.int ((p2 &&& (2147483647 : Int32)) % (10 : Int32))), .val (.ref b1), .val .null, .val .null, .val .null, .unset, .unset, .unset, .unset] [.null])) _
      refine XS.ifnullYes X92.here hx rfl (pc0 := 287) (pc' := 323) rfl (hb hby at_287) rfl (by decide) (by decide) ?_
      show Steps p.tables e below (T92.setTop (mkF m 323 #[.val (.int p1), .val (.int p2), .val (.long q3), .second, .val (.long q4), .second, .val (.int p5), .val (.int p6), .val (.int (p1 &&& (3 : Int32))), .val (.int ((p2 &&& (2147483647 : Int32)) % (10 : Int32))), .val (.ref b1), .val .null, .val .null, .val .null, .unset, .unset, .unset, .unset] [])) _
      refine st93 _ ?_
      show Steps p.tables e below (T93.setTop (mkF m 326 #[.val (.int p1), .val (.int p2), .val (.long q3), .second, .val (.long q4), .second, .val (.int p5), .val (.int p6), .val (.int (p1 &&& (3 : Int32))), .val (.int ((p2 &&& (2147483647 : Int32)) % (10 : Int32))), .val (.ref b1), .val .null, .val .null, .val .null, .unset, .unset, .unset, .unset] [(.ref w_CSV)])) _
      refine st94.trans ?_
      show Steps p.tables e below (T94.setTop (mkF m 329 #[.val (.int p1), .val (.int p2), .val (.long q3), .second, .val (.long q4), .second, .val (.int p5), .val (.int p6), .val (.int (p1 &&& (3 : Int32))), .val (.int ((p2 &&& (2147483647 : Int32)) % (10 : Int32))), .val (.ref b1), .val .null, .val .null, .val .null, .unset, .unset, .unset, .unset] [(.ref s0u)])) _
      refine XS.astore X94.here hx rfl (hb hby at_329) rfl rfl (l' := #[.val (.int p1), .val (.int p2), .val (.long q3), .second, .val (.long q4), .second, .val (.int p5), .val (.int p6), .val (.int (p1 &&& (3 : Int32))), .val (.int ((p2 &&& (2147483647 : Int32)) % (10 : Int32))), .val (.ref b1), .val .null, .val .null, .val .null, .val (.ref s0u), .unset, .unset, .unset]) rfl ?_
      show Steps p.tables e below (T94.setTop (mkF m 331 #[.val (.int p1), .val (.int p2), .val (.long q3), .second, .val (.long q4), .second, .val (.int p5), .val (.int p6), .val (.int (p1 &&& (3 : Int32))), .val (.int ((p2 &&& (2147483647 : Int32)) % (10 : Int32))), .val (.ref b1), .val .null, .val .null, .val .null, .val (.ref s0u), .unset, .unset, .unset] [])) _
      refine st95 _ ?_
      show Steps p.tables e below (T95.setTop (mkF m 334 #[.val (.int p1), .val (.int p2), .val (.long q3), .second, .val (.long q4), .second, .val (.int p5), .val (.int p6), .val (.int (p1 &&& (3 : Int32))), .val (.int ((p2 &&& (2147483647 : Int32)) % (10 : Int32))), .val (.ref b1), .val .null, .val .null, .val .null, .val (.ref s0u), .unset, .unset, .unset] [(.ref w_CAMT_054)])) _
      refine st96.trans ?_
      show Steps p.tables e below (T96.setTop (mkF m 337 #[.val (.int p1), .val (.int p2), .val (.long q3), .second, .val (.long q4), .second, .val (.int p5), .val (.int p6), .val (.int (p1 &&& (3 : Int32))), .val (.int ((p2 &&& (2147483647 : Int32)) % (10 : Int32))), .val (.ref b1), .val .null, .val .null, .val .null, .val (.ref s0u), .unset, .unset, .unset] [(.ref s1u)])) _
      refine XS.astore X96.here hx rfl (hb hby at_337) rfl rfl (l' := #[.val (.int p1), .val (.int p2), .val (.long q3), .second, .val (.long q4), .second, .val (.int p5), .val (.int p6), .val (.int (p1 &&& (3 : Int32))), .val (.int ((p2 &&& (2147483647 : Int32)) % (10 : Int32))), .val (.ref b1), .val .null, .val .null, .val .null, .val (.ref s0u), .val (.ref s1u), .unset, .unset]) rfl ?_
      show Steps p.tables e below (T96.setTop (mkF m 339 #[.val (.int p1), .val (.int p2), .val (.long q3), .second, .val (.long q4), .second, .val (.int p5), .val (.int p6), .val (.int (p1 &&& (3 : Int32))), .val (.int ((p2 &&& (2147483647 : Int32)) % (10 : Int32))), .val (.ref b1), .val .null, .val .null, .val .null, .val (.ref s0u), .val (.ref s1u), .unset, .unset] [])) _
      refine st97 _ ?_
      show Steps p.tables e below (T97.setTop (mkF m 341 #[.val (.int p1), .val (.int p2), .val (.long q3), .second, .val (.long q4), .second, .val (.int p5), .val (.int p6), .val (.int (p1 &&& (3 : Int32))), .val (.int ((p2 &&& (2147483647 : Int32)) % (10 : Int32))), .val (.ref b1), .val .null, .val .null, .val .null, .val (.ref s0u), .val (.ref s1u), .unset, .unset] [(.ref sa97)])) _
      refine XS.aload X97.here hx rfl (hb hby at_341) rfl rfl ?_
      show Steps p.tables e below (T97.setTop (mkF m 343 #[.val (.int p1), .val (.int p2), .val (.long q3), .second, .val (.long q4), .second, .val (.int p5), .val (.int p6), .val (.int (p1 &&& (3 : Int32))), .val (.int ((p2 &&& (2147483647 : Int32)) % (10 : Int32))), .val (.ref b1), .val .null, .val .null, .val .null, .val (.ref s0u), .val (.ref s1u), .unset, .unset] [(.ref s0u), (.ref sa97)])) _
      refine st102.trans ?_
      show Steps p.tables e below (T102.setTop (mkF m 346 #[.val (.int p1), .val (.int p2), .val (.long q3), .second, .val (.long q4), .second, .val (.int p5), .val (.int p6), .val (.int (p1 &&& (3 : Int32))), .val (.int ((p2 &&& (2147483647 : Int32)) % (10 : Int32))), .val (.ref b1), .val .null, .val .null, .val .null, .val (.ref s0u), .val (.ref s1u), .unset, .unset] [(.int (1 : Int32))])) _
      refine XS.ifNo X102.here hx rfl (hb hby at_346) rfl ((if0 _ _).trans (feq (by decide : ¬ ((1 : Int32) = (0 : Int32)))).1) ?_
      show Steps p.tables e below (T102.setTop (mkF m 349 #[.val (.int p1), .val (.int p2), .val (.long q3), .second, .val (.long q4), .second, .val (.int p5), .val (.int p6), .val (.int (p1 &&& (3 : Int32))), .val (.int ((p2 &&& (2147483647 : Int32)) % (10 : Int32))), .val (.ref b1), .val .null, .val .null, .val .null, .val (.ref s0u), .val (.ref s1u), .unset, .unset] [])) _
      refine st103 _ ?_
      show Steps p.tables e below (T103.setTop (mkF m 351 #[.val (.int p1), .val (.int p2), .val (.long q3), .second, .val (.long q4), .second, .val (.int p5), .val (.int p6), .val (.int (p1 &&& (3 : Int32))), .val (.int ((p2 &&& (2147483647 : Int32)) % (10 : Int32))), .val (.ref b1), .val .null, .val .null, .val .null, .val (.ref s0u), .val (.ref s1u), .unset, .unset] [(.ref sa103)])) _
      refine XS.aload X103.here hx rfl (hb hby at_351) rfl rfl ?_
      show Steps p.tables e below (T103.setTop (mkF m 353 #[.val (.int p1), .val (.int p2), .val (.long q3), .second, .val (.long q4), .second, .val (.int p5), .val (.int p6), .val (.int (p1 &&& (3 : Int32))), .val (.int ((p2 &&& (2147483647 : Int32)) % (10 : Int32))), .val (.ref b1), .val .null, .val .null, .val .null, .val (.ref s0u), .val (.ref s1u), .unset, .unset] [(.ref s1u), (.ref sa103)])) _
      refine st108.trans ?_
      show Steps p.tables e below (T108.setTop (mkF m 356 #[.val (.int p1), .val (.int p2), .val (.long q3), .second, .val (.long q4), .second, .val (.int p5), .val (.int p6), .val (.int (p1 &&& (3 : Int32))), .val (.int ((p2 &&& (2147483647 : Int32)) % (10 : Int32))), .val (.ref b1), .val .null, .val .null, .val .null, .val (.ref s0u), .val (.ref s1u), .unset, .unset] [(.int (1 : Int32))])) _
      refine XS.ifNo X108.here hx rfl (hb hby at_356) rfl ((if0 _ _).trans (feq (by decide : ¬ ((1 : Int32) = (0 : Int32)))).1) ?_
      show Steps p.tables e below (T108.setTop (mkF m 359 #[.val (.int p1), .val (.int p2), .val (.long q3), .second, .val (.long q4), .second, .val (.int p5), .val (.int p6), .val (.int (p1 &&& (3 : Int32))), .val (.int ((p2 &&& (2147483647 : Int32)) % (10 : Int32))), .val (.ref b1), .val .null, .val .null, .val .null, .val (.ref s0u), .val (.ref s1u), .unset, .unset] [])) _
      refine XS.iconst X108.here hx rfl (hb hby at_359) ?_
      show Steps p.tables e below (T108.setTop (mkF m 360 #[.val (.int p1), .val (.int p2), .val (.long q3), .second, .val (.long q4), .second, .val (.int p5), .val (.int p6), .val (.int (p1 &&& (3 : Int32))), .val (.int ((p2 &&& (2147483647 : Int32)) % (10 : Int32))), .val (.ref b1), .val .null, .val .null, .val .null, .val (.ref s0u), .val (.ref s1u), .unset, .unset] [(.int (1 : Int32))])) _
      refine XS.goto X108.here hx rfl (pc0 := 360) (pc' := 364) rfl (hb hby at_360) (by decide) (by decide) ?_
      show Steps p.tables e below (T108.setTop (mkF m 364 #[.val (.int p1), .val (.int p2), .val (.long q3), .second, .val (.long q4), .second, .val (.int p5), .val (.int p6), .val (.int (p1 &&& (3 : Int32))), .val (.int ((p2 &&& (2147483647 : Int32)) % (10 : Int32))), .val (.ref b1), .val .null, .val .null, .val .null, .val (.ref s0u), .val (.ref s1u), .unset, .unset] [(.int (1 : Int32))])) _
      refine XS.istore X108.here hx rfl (hb hby at_364) rfl (l' := #[.val (.int p1), .val (.int p2), .val (.long q3), .second, .val (.long q4), .second, .val (.int p5), .val (.int p6), .val (.int (p1 &&& (3 : Int32))), .val (.int ((p2 &&& (2147483647 : Int32)) % (10 : Int32))), .val (.ref b1), .val .null, .val .null, .val .null, .val (.ref s0u), .val (.ref s1u), .val (.int (1 : Int32)), .unset]) rfl ?_
      show Steps p.tables e below (T108.setTop (mkF m 366 #[.val (.int p1), .val (.int p2), .val (.long q3), .second, .val (.long q4), .second, .val (.int p5), .val (.int p6), .val (.int (p1 &&& (3 : Int32))), .val (.int ((p2 &&& (2147483647 : Int32)) % (10 : Int32))), .val (.ref b1), .val .null, .val .null, .val .null, .val (.ref s0u), .val (.ref s1u), .val (.int (1 : Int32)), .unset] [])) _
      refine XS.aload X108.here hx rfl (hb hby at_366) rfl rfl ?_
      show Steps p.tables e below (T108.setTop (mkF m 368 #[.val (.int p1), .val (.int p2), .val (.long q3), .second, .val (.long q4), .second, .val (.int p5), .val (.int p6), .val (.int (p1 &&& (3 : Int32))), .val (.int ((p2 &&& (2147483647 : Int32)) % (10 : Int32))), .val (.ref b1), .val .null, .val .null, .val .null, .val (.ref s0u), .val (.ref s1u), .val (.int (1 : Int32)), .unset] [(.ref s0u)])) _
      refine st113 _ ?_
      show Steps p.tables e below (T113.setTop (mkF m 371 #[.val (.int p1), .val (.int p2), .val (.long q3), .second, .val (.long q4), .second, .val (.int p5), .val (.int p6), .val (.int (p1 &&& (3 : Int32))), .val (.int ((p2 &&& (2147483647 : Int32)) % (10 : Int32))), .val (.ref b1), .val .null, .val .null, .val .null, .val (.ref s0u), .val (.ref s1u), .val (.int (1 : Int32)), .unset] [(.ref w_CSV)])) _
      refine st114 _ ?_
      show Steps p.tables e below (T114.setTop (mkF m 374 #[.val (.int p1), .val (.int p2), .val (.long q3), .second, .val (.long q4), .second, .val (.int p5), .val (.int p6), .val (.int (p1 &&& (3 : Int32))), .val (.int ((p2 &&& (2147483647 : Int32)) % (10 : Int32))), .val (.ref b1), .val .null, .val .null, .val .null, .val (.ref s0u), .val (.ref s1u), .val (.int (1 : Int32)), .unset] [(.ref w_CSV), (.ref w_CSV)])) _
      refine Jvm.RoadKit.acmp (g := (mkF m 374 #[.val (.int p1), .val (.int p2), .val (.long q3), .second, .val (.long q4), .second, .val (.int p5), .val (.int p6), .val (.int (p1 &&& (3 : Int32))), .val (.int ((p2 &&& (2147483647 : Int32)) % (10 : Int32))), .val (.ref b1), .val .null, .val .null, .val .null, .val (.ref s0u), .val (.ref s1u), .val (.int (1 : Int32)), .unset] [(.ref w_CSV), (.ref w_CSV)])) X114 hx rfl rfl rfl (pc0 := 374) (pc' := 377) (same := true) rfl (hb hby at_374) rfl (decide_eq_true rfl) (by decide) (by decide) ?_
      show Steps p.tables e below (T114.setTop (mkF m 377 #[.val (.int p1), .val (.int p2), .val (.long q3), .second, .val (.long q4), .second, .val (.int p5), .val (.int p6), .val (.int (p1 &&& (3 : Int32))), .val (.int ((p2 &&& (2147483647 : Int32)) % (10 : Int32))), .val (.ref b1), .val .null, .val .null, .val .null, .val (.ref s0u), .val (.ref s1u), .val (.int (1 : Int32)), .unset] [])) _
      refine XS.aload X114.here hx rfl (hb hby at_377) rfl rfl ?_
      show Steps p.tables e below (T114.setTop (mkF m 379 #[.val (.int p1), .val (.int p2), .val (.long q3), .second, .val (.long q4), .second, .val (.int p5), .val (.int p6), .val (.int (p1 &&& (3 : Int32))), .val (.int ((p2 &&& (2147483647 : Int32)) % (10 : Int32))), .val (.ref b1), .val .null, .val .null, .val .null, .val (.ref s0u), .val (.ref s1u), .val (.int (1 : Int32)), .unset] [(.ref s1u)])) _
      refine st119 _ ?_
      show Steps p.tables e below (T119.setTop (mkF m 382 #[.val (.int p1), .val (.int p2), .val (.long q3), .second, .val (.long q4), .second, .val (.int p5), .val (.int p6), .val (.int (p1 &&& (3 : Int32))), .val (.int ((p2 &&& (2147483647 : Int32)) % (10 : Int32))), .val (.ref b1), .val .null, .val .null, .val .null, .val (.ref s0u), .val (.ref s1u), .val (.int (1 : Int32)), .unset] [(.ref w_CAMT_054)])) _
      refine st120 _ ?_
      show Steps p.tables e below (T120.setTop (mkF m 385 #[.val (.int p1), .val (.int p2), .val (.long q3), .second, .val (.long q4), .second, .val (.int p5), .val (.int p6), .val (.int (p1 &&& (3 : Int32))), .val (.int ((p2 &&& (2147483647 : Int32)) % (10 : Int32))), .val (.ref b1), .val .null, .val .null, .val .null, .val (.ref s0u), .val (.ref s1u), .val (.int (1 : Int32)), .unset] [(.ref w_CAMT_054), (.ref w_CAMT_054)])) _
      refine Jvm.RoadKit.acmp (g := (mkF m 385 #[.val (.int p1), .val (.int p2), .val (.long q3), .second, .val (.long q4), .second, .val (.int p5), .val (.int p6), .val (.int (p1 &&& (3 : Int32))), .val (.int ((p2 &&& (2147483647 : Int32)) % (10 : Int32))), .val (.ref b1), .val .null, .val .null, .val .null, .val (.ref s0u), .val (.ref s1u), .val (.int (1 : Int32)), .unset] [(.ref w_CAMT_054), (.ref w_CAMT_054)])) X120 hx rfl rfl rfl (pc0 := 385) (pc' := 388) (same := true) rfl (hb hby at_385) rfl (decide_eq_true rfl) (by decide) (by decide) ?_
      show Steps p.tables e below (T120.setTop (mkF m 388 #[.val (.int p1), .val (.int p2), .val (.long q3), .second, .val (.long q4), .second, .val (.int p5), .val (.int p6), .val (.int (p1 &&& (3 : Int32))), .val (.int ((p2 &&& (2147483647 : Int32)) % (10 : Int32))), .val (.ref b1), .val .null, .val .null, .val .null, .val (.ref s0u), .val (.ref s1u), .val (.int (1 : Int32)), .unset] [])) _
      refine XS.iconst X120.here hx rfl (hb hby at_388) ?_
      show Steps p.tables e below (T120.setTop (mkF m 389 #[.val (.int p1), .val (.int p2), .val (.long q3), .second, .val (.long q4), .second, .val (.int p5), .val (.int p6), .val (.int (p1 &&& (3 : Int32))), .val (.int ((p2 &&& (2147483647 : Int32)) % (10 : Int32))), .val (.ref b1), .val .null, .val .null, .val .null, .val (.ref s0u), .val (.ref s1u), .val (.int (1 : Int32)), .unset] [(.int (1 : Int32))])) _
      refine XS.goto X120.here hx rfl (pc0 := 389) (pc' := 393) rfl (hb hby at_389) (by decide) (by decide) ?_
      show Steps p.tables e below (T120.setTop (mkF m 393 #[.val (.int p1), .val (.int p2), .val (.long q3), .second, .val (.long q4), .second, .val (.int p5), .val (.int p6), .val (.int (p1 &&& (3 : Int32))), .val (.int ((p2 &&& (2147483647 : Int32)) % (10 : Int32))), .val (.ref b1), .val .null, .val .null, .val .null, .val (.ref s0u), .val (.ref s1u), .val (.int (1 : Int32)), .unset] [(.int (1 : Int32))])) _
      refine XS.istore X120.here hx rfl (hb hby at_393) rfl (l' := #[.val (.int p1), .val (.int p2), .val (.long q3), .second, .val (.long q4), .second, .val (.int p5), .val (.int p6), .val (.int (p1 &&& (3 : Int32))), .val (.int ((p2 &&& (2147483647 : Int32)) % (10 : Int32))), .val (.ref b1), .val .null, .val .null, .val .null, .val (.ref s0u), .val (.ref s1u), .val (.int (1 : Int32)), .val (.int (1 : Int32))]) rfl ?_
      show Steps p.tables e below (T120.setTop (mkF m 395 #[.val (.int p1), .val (.int p2), .val (.long q3), .second, .val (.long q4), .second, .val (.int p5), .val (.int p6), .val (.int (p1 &&& (3 : Int32))), .val (.int ((p2 &&& (2147483647 : Int32)) % (10 : Int32))), .val (.ref b1), .val .null, .val .null, .val .null, .val (.ref s0u), .val (.ref s1u), .val (.int (1 : Int32)), .val (.int (1 : Int32))] [])) _
      refine XS.aload X120.here hx rfl (hb hby at_395) rfl rfl ?_
      show Steps p.tables e below (T120.setTop (mkF m 397 #[.val (.int p1), .val (.int p2), .val (.long q3), .second, .val (.long q4), .second, .val (.int p5), .val (.int p6), .val (.int (p1 &&& (3 : Int32))), .val (.int ((p2 &&& (2147483647 : Int32)) % (10 : Int32))), .val (.ref b1), .val .null, .val .null, .val .null, .val (.ref s0u), .val (.ref s1u), .val (.int (1 : Int32)), .val (.int (1 : Int32))] [.null])) _
      refine XS.aload X120.here hx rfl (hb hby at_397) rfl rfl ?_
      show Steps p.tables e below (T120.setTop (mkF m 399 #[.val (.int p1), .val (.int p2), .val (.long q3), .second, .val (.long q4), .second, .val (.int p5), .val (.int p6), .val (.int (p1 &&& (3 : Int32))), .val (.int ((p2 &&& (2147483647 : Int32)) % (10 : Int32))), .val (.ref b1), .val .null, .val .null, .val .null, .val (.ref s0u), .val (.ref s1u), .val (.int (1 : Int32)), .val (.int (1 : Int32))] [.null, .null])) _
      refine Jvm.RoadKit.acmp (g := (mkF m 399 #[.val (.int p1), .val (.int p2), .val (.long q3), .second, .val (.long q4), .second, .val (.int p5), .val (.int p6), .val (.int (p1 &&& (3 : Int32))), .val (.int ((p2 &&& (2147483647 : Int32)) % (10 : Int32))), .val (.ref b1), .val .null, .val .null, .val .null, .val (.ref s0u), .val (.ref s1u), .val (.int (1 : Int32)), .val (.int (1 : Int32))] [.null, .null])) X120 hx rfl rfl rfl (pc0 := 399) (pc' := 402) (same := true) rfl (hb hby at_399) rfl (decide_eq_true rfl) (by decide) (by decide) ?_
      show Steps p.tables e below (T120.setTop (mkF m 402 #[.val (.int p1), .val (.int p2), .val (.long q3), .second, .val (.long q4), .second, .val (.int p5), .val (.int p6), .val (.int (p1 &&& (3 : Int32))), .val (.int ((p2 &&& (2147483647 : Int32)) % (10 : Int32))), .val (.ref b1), .val .null, .val .null, .val .null, .val (.ref s0u), .val (.ref s1u), .val (.int (1 : Int32)), .val (.int (1 : Int32))] [])) _
      refine XS.iload X120.here hx rfl (hb hby at_402) rfl ?_
      show Steps p.tables e below (T120.setTop (mkF m 404 #[.val (.int p1), .val (.int p2), .val (.long q3), .second, .val (.long q4), .second, .val (.int p5), .val (.int p6), .val (.int (p1 &&& (3 : Int32))), .val (.int ((p2 &&& (2147483647 : Int32)) % (10 : Int32))), .val (.ref b1), .val .null, .val .null, .val .null, .val (.ref s0u), .val (.ref s1u), .val (.int (1 : Int32)), .val (.int (1 : Int32))] [(.int (1 : Int32))])) _
      refine XS.ifNo X120.here hx rfl (hb hby at_404) rfl ((if0 _ _).trans (feq (by decide : ¬ ((1 : Int32) = (0 : Int32)))).1) ?_
      show Steps p.tables e below (T120.setTop (mkF m 407 #[.val (.int p1), .val (.int p2), .val (.long q3), .second, .val (.long q4), .second, .val (.int p5), .val (.int p6), .val (.int (p1 &&& (3 : Int32))), .val (.int ((p2 &&& (2147483647 : Int32)) % (10 : Int32))), .val (.ref b1), .val .null, .val .null, .val .null, .val (.ref s0u), .val (.ref s1u), .val (.int (1 : Int32)), .val (.int (1 : Int32))] [])) _
      refine XS.iload X120.here hx rfl (hb hby at_407) rfl ?_
      show Steps p.tables e below (T120.setTop (mkF m 409 #[.val (.int p1), .val (.int p2), .val (.long q3), .second, .val (.long q4), .second, .val (.int p5), .val (.int p6), .val (.int (p1 &&& (3 : Int32))), .val (.int ((p2 &&& (2147483647 : Int32)) % (10 : Int32))), .val (.ref b1), .val .null, .val .null, .val .null, .val (.ref s0u), .val (.ref s1u), .val (.int (1 : Int32)), .val (.int (1 : Int32))] [(.int (1 : Int32))])) _
      refine XS.ifNo X120.here hx rfl (hb hby at_409) rfl ((if0 _ _).trans (feq (by decide : ¬ ((1 : Int32) = (0 : Int32)))).1) ?_
      show Steps p.tables e below (T120.setTop (mkF m 412 #[.val (.int p1), .val (.int p2), .val (.long q3), .second, .val (.long q4), .second, .val (.int p5), .val (.int p6), .val (.int (p1 &&& (3 : Int32))), .val (.int ((p2 &&& (2147483647 : Int32)) % (10 : Int32))), .val (.ref b1), .val .null, .val .null, .val .null, .val (.ref s0u), .val (.ref s1u), .val (.int (1 : Int32)), .val (.int (1 : Int32))] [])) _
      refine XS.iconst X120.here hx rfl (hb hby at_412) ?_
      show Steps p.tables e below (T120.setTop (mkF m 413 #[.val (.int p1), .val (.int p2), .val (.long q3), .second, .val (.long q4), .second, .val (.int p5), .val (.int p6), .val (.int (p1 &&& (3 : Int32))), .val (.int ((p2 &&& (2147483647 : Int32)) % (10 : Int32))), .val (.ref b1), .val .null, .val .null, .val .null, .val (.ref s0u), .val (.ref s1u), .val (.int (1 : Int32)), .val (.int (1 : Int32))] [(.int (1 : Int32))])) _
      refine XS.goto X120.here hx rfl (pc0 := 413) (pc' := 417) rfl (hb hby at_413) (by decide) (by decide) ?_
      show Steps p.tables e below (T120.setTop (mkF m 417 #[.val (.int p1), .val (.int p2), .val (.long q3), .second, .val (.long q4), .second, .val (.int p5), .val (.int p6), .val (.int (p1 &&& (3 : Int32))), .val (.int ((p2 &&& (2147483647 : Int32)) % (10 : Int32))), .val (.ref b1), .val .null, .val .null, .val .null, .val (.ref s0u), .val (.ref s1u), .val (.int (1 : Int32)), .val (.int (1 : Int32))] [(.int (1 : Int32))])) _
      exact retN X120 hx (t := .boolean) Bd.returns (by simp) (hb hby at_417) hr
    · show Q_rm0 Z p1 p2 q3 q4 p5 p6 wV kV w_CSV w_CAMT_054 s0u s0t s0k s1u s1t s1k zc h0 n0 _ T120.heap T120.vm _
      rw [e120]
      exact ⟨rfl, N119⟩
  · have pre121 : ∀ t, Steps p.tables e below (T58.setTop (mkF m 254 #[.val (.int p1), .val (.int p2), .val (.long q3), .second, .val (.long q4), .second, .val (.int p5), .val (.int p6), .val (.int (p1 &&& (3 : Int32))), .val (.int ((p2 &&& (2147483647 : Int32)) % (10 : Int32))), .val (.ref b1), .unset, .unset, .unset, .unset, .unset, .unset, .unset] [(.int (3 : Int32)), (.int (p1 &&& (3 : Int32)))])) t → Steps p.tables e below (s₁.setTop (entryFrame m #[(.int p1), (.int p2), (.long q3), (.long q4), (.int p5), (.int p6)] maxLocals)) t := fun t k => pre58 t (by
        show Steps p.tables e below (T58.setTop (mkF m 251 #[.val (.int p1), .val (.int p2), .val (.long q3), .second, .val (.long q4), .second, .val (.int p5), .val (.int p6), .val (.int (p1 &&& (3 : Int32))), .val (.int ((p2 &&& (2147483647 : Int32)) % (10 : Int32))), .val (.ref b1), .unset, .unset, .unset, .unset, .unset, .unset, .unset] [])) _
        refine XS.iload X58.here hx rfl (hb hby at_251) rfl ?_
        show Steps p.tables e below (T58.setTop (mkF m 253 #[.val (.int p1), .val (.int p2), .val (.long q3), .second, .val (.long q4), .second, .val (.int p5), .val (.int p6), .val (.int (p1 &&& (3 : Int32))), .val (.int ((p2 &&& (2147483647 : Int32)) % (10 : Int32))), .val (.ref b1), .unset, .unset, .unset, .unset, .unset, .unset, .unset] [(.int (p1 &&& (3 : Int32)))])) _
        refine XS.iconst X58.here hx rfl (hb hby at_253) ?_
        exact k)
    have pre124 : ∀ t, Steps p.tables e below (T58.setTop (mkF m 266 #[.val (.int p1), .val (.int p2), .val (.long q3), .second, .val (.long q4), .second, .val (.int p5), .val (.int p6), .val (.int (p1 &&& (3 : Int32))), .val (.int ((p2 &&& (2147483647 : Int32)) % (10 : Int32))), .val (.ref b1), .unset, .unset, .unset, .unset, .unset, .unset, .unset] [])) t → Steps p.tables e below (s₁.setTop (entryFrame m #[(.int p1), (.int p2), (.long q3), (.long q4), (.int p5), (.int p6)] maxLocals)) t := fun t k => pre121 t (by
        by_cases hc122 : (p1 &&& (3 : Int32)) = (3 : Int32)
        · show Steps p.tables e below (T58.setTop (mkF m 254 #[.val (.int p1), .val (.int p2), .val (.long q3), .second, .val (.long q4), .second, .val (.int p5), .val (.int p6), .val (.int (p1 &&& (3 : Int32))), .val (.int ((p2 &&& (2147483647 : Int32)) % (10 : Int32))), .val (.ref b1), .unset, .unset, .unset, .unset, .unset, .unset, .unset] [(.int (3 : Int32)), (.int (p1 &&& (3 : Int32)))])) _
          refine XS.icmpNo X58.here hx rfl (hb hby at_254) rfl (teq hc122).2 ?_
          show Steps p.tables e below (T58.setTop (mkF m 257 #[.val (.int p1), .val (.int p2), .val (.long q3), .second, .val (.long q4), .second, .val (.int p5), .val (.int p6), .val (.int (p1 &&& (3 : Int32))), .val (.int ((p2 &&& (2147483647 : Int32)) % (10 : Int32))), .val (.ref b1), .unset, .unset, .unset, .unset, .unset, .unset, .unset] [])) _
          refine XS.iload X58.here hx rfl (hb hby at_257) rfl ?_
          by_cases hc123 : ((p2 &&& (2147483647 : Int32)) % (10 : Int32)) = (0 : Int32)
          · exact absurd ⟨hc122, hc123⟩ hc91
          · show Steps p.tables e below (T58.setTop (mkF m 259 #[.val (.int p1), .val (.int p2), .val (.long q3), .second, .val (.long q4), .second, .val (.int p5), .val (.int p6), .val (.int (p1 &&& (3 : Int32))), .val (.int ((p2 &&& (2147483647 : Int32)) % (10 : Int32))), .val (.ref b1), .unset, .unset, .unset, .unset, .unset, .unset, .unset] [(.int ((p2 &&& (2147483647 : Int32)) % (10 : Int32)))])) _
            refine XS.ifYes X58.here hx rfl (pc0 := 259) (pc' := 266) rfl (hb hby at_259) rfl ((if0 _ _).trans (feq hc123).2) (by decide) (by decide) ?_
            exact k
        · show Steps p.tables e below (T58.setTop (mkF m 254 #[.val (.int p1), .val (.int p2), .val (.long q3), .second, .val (.long q4), .second, .val (.int p5), .val (.int p6), .val (.int (p1 &&& (3 : Int32))), .val (.int ((p2 &&& (2147483647 : Int32)) % (10 : Int32))), .val (.ref b1), .unset, .unset, .unset, .unset, .unset, .unset, .unset] [(.int (3 : Int32)), (.int (p1 &&& (3 : Int32)))])) _
          refine XS.icmpYes X58.here hx rfl (pc0 := 254) (pc' := 266) rfl (hb hby at_254) rfl (feq hc122).2 (by decide) (by decide) ?_
          exact k)
    obtain ⟨_, _, ⟨T125, L125, k125, n125⟩, -, X125, hS2_125, hg_125, ⟨Lc125, hQ125, l125, y125, z125⟩, st125⟩ := callSS X58 hx (y := (⟨"com/example/payspread/payspread/io/FormatNamedPinLaw", "str", "(I[C)Ljava/lang/String;"⟩ : MethodName)) hown (mvT hZ (hw _ (List.mem_of_getElem? (i := 3) rfl))) (mvT hZ (hw _ (List.mem_of_getElem? (i := 4) rfl))) (mvT hZ (hw _ (List.mem_of_getElem? (i := 5) rfl))) (mvT hZ (hw _ (List.mem_of_getElem? (i := 6) rfl))) (by decide) (own_backI (W := 0) (rmT l Z a0 hw [] ((p2 &&& (2147483647 : Int32)) % (10 : Int32)) b1 k1 zc c58_0 c58_1 c58_2 c58_3 c58_4 c58_5 c58_6 c58_7 c58_8 h58 n0 (Nat.le_trans Z0 K58.1) V58 ⟨hb_c58_0, hb_c58_1, hb_c58_2, hb_c58_3, hb_c58_4, hb_c58_5, hb_c58_6, hb_c58_7, hb_c58_8⟩ (Sta.ext (own_keep_ext K58) S_C) hzc (fun x cl q => (own_keep_ext K58).2 x cl (hkeepZ x cl q)) hcw hE7) hZ hin0 (hw _ (List.mem_of_getElem? (i := 6) rfl)) (hw _ (List.mem_of_getElem? (i := 5) rfl)) (by decide) (by decide)) (g := (mkF m 270 #[.val (.int p1), .val (.int p2), .val (.long q3), .second, .val (.long q4), .second, .val (.int p5), .val (.int p6), .val (.int (p1 &&& (3 : Int32))), .val (.int ((p2 &&& (2147483647 : Int32)) % (10 : Int32))), .val (.ref b1), .unset, .unset, .unset, .unset, .unset, .unset, .unset] [(.ref b1), (.int ((p2 &&& (2147483647 : Int32)) % (10 : Int32)))])) rfl (by rw [hml]; rfl) (argsL := [(.int ((p2 &&& (2147483647 : Int32)) % (10 : Int32))), (.ref b1)]) (rest := []) (lenOf pd_rm0_3 rfl) rfl (by show 2 * 0 + _ ≤ _; exact Nat.le_of_eq rfl) (hb hby at_270) (fun _ _ => ⟨rfl, e58, (by decide : 1 + 4 ≤ _), (by decide : 9 + 22 ≤ _)⟩)
    dsimp only [Pt.U, Pt.locs, Pt.cells, Pt.slots] at X125 l125 y125 z125 st125 hQ125
    subst l125 y125 z125
    obtain ⟨X125', hS125', hZ125', hown125'⟩ := rebS (s := s) (vm0 := s.vm) hS0 (show _ ≤ T58.heap.size by rw [e58]; exact (Nat.le_trans (Nat.zero_le _) ((own_keep_ext K58)).1)) X125 hS2_125 hg_125 hZ hown
    obtain ⟨u125, t125, k125_, ds125, N2125, vs125, rfl, N125q, K125q, A125q, V125q, C125q, B125q, cd125, bd125, ln125, I125q⟩ := hQ125
    have N125 := Fr.app N58 N125q
    have K125 : Keep h0 T125.heap [] := (K58).trans K125q all0
    have pre126 : ∀ t, Steps p.tables e below (T125.setTop (mkF m 277 #[.val (.int p1), .val (.int p2), .val (.long q3), .second, .val (.long q4), .second, .val (.int p5), .val (.int p6), .val (.int (p1 &&& (3 : Int32))), .val (.int ((p2 &&& (2147483647 : Int32)) % (10 : Int32))), .val (.ref b1), .val (.ref u125), .unset, .unset, .unset, .unset, .unset, .unset] [(.ref u125)])) t → Steps p.tables e below (s₁.setTop (entryFrame m #[(.int p1), (.int p2), (.long q3), (.long q4), (.int p5), (.int p6)] maxLocals)) t := fun t k => pre124 t (by
        show Steps p.tables e below (T58.setTop (mkF m 266 #[.val (.int p1), .val (.int p2), .val (.long q3), .second, .val (.long q4), .second, .val (.int p5), .val (.int p6), .val (.int (p1 &&& (3 : Int32))), .val (.int ((p2 &&& (2147483647 : Int32)) % (10 : Int32))), .val (.ref b1), .unset, .unset, .unset, .unset, .unset, .unset, .unset] [])) _
        refine XS.iload X58.here hx rfl (hb hby at_266) rfl ?_
        show Steps p.tables e below (T58.setTop (mkF m 268 #[.val (.int p1), .val (.int p2), .val (.long q3), .second, .val (.long q4), .second, .val (.int p5), .val (.int p6), .val (.int (p1 &&& (3 : Int32))), .val (.int ((p2 &&& (2147483647 : Int32)) % (10 : Int32))), .val (.ref b1), .unset, .unset, .unset, .unset, .unset, .unset, .unset] [(.int ((p2 &&& (2147483647 : Int32)) % (10 : Int32)))])) _
        refine XS.aload X58.here hx rfl (hb hby at_268) rfl rfl ?_
        show Steps p.tables e below (T58.setTop (mkF m 270 #[.val (.int p1), .val (.int p2), .val (.long q3), .second, .val (.long q4), .second, .val (.int p5), .val (.int p6), .val (.int (p1 &&& (3 : Int32))), .val (.int ((p2 &&& (2147483647 : Int32)) % (10 : Int32))), .val (.ref b1), .unset, .unset, .unset, .unset, .unset, .unset, .unset] [(.ref b1), (.int ((p2 &&& (2147483647 : Int32)) % (10 : Int32)))])) _
        refine st125.trans ?_
        show Steps p.tables e below (T125.setTop (mkF m 273 #[.val (.int p1), .val (.int p2), .val (.long q3), .second, .val (.long q4), .second, .val (.int p5), .val (.int p6), .val (.int (p1 &&& (3 : Int32))), .val (.int ((p2 &&& (2147483647 : Int32)) % (10 : Int32))), .val (.ref b1), .unset, .unset, .unset, .unset, .unset, .unset, .unset] [(.ref u125)])) _
        refine XS.astore X125'.here hx rfl (hb hby at_273) rfl rfl (l' := #[.val (.int p1), .val (.int p2), .val (.long q3), .second, .val (.long q4), .second, .val (.int p5), .val (.int p6), .val (.int (p1 &&& (3 : Int32))), .val (.int ((p2 &&& (2147483647 : Int32)) % (10 : Int32))), .val (.ref b1), .val (.ref u125), .unset, .unset, .unset, .unset, .unset, .unset]) rfl ?_
        show Steps p.tables e below (T125.setTop (mkF m 275 #[.val (.int p1), .val (.int p2), .val (.long q3), .second, .val (.long q4), .second, .val (.int p5), .val (.int p6), .val (.int (p1 &&& (3 : Int32))), .val (.int ((p2 &&& (2147483647 : Int32)) % (10 : Int32))), .val (.ref b1), .val (.ref u125), .unset, .unset, .unset, .unset, .unset, .unset] [])) _
        refine XS.aload X125'.here hx rfl (hb hby at_275) rfl rfl ?_
        exact k)
    by_cases hc127 : cs0 = ds125
    · obtain ⟨_, _, ⟨T128, L128, k128, n128⟩, -, X128, ⟨Lc128, hQ128, l128, y128, z128⟩, st128⟩ := Jvm.LawKit.callS X125' hx (y := (⟨"com/example/payspread/payspread/io/PaymentsFile$Format", "named", "(Ljava/lang/String;)Lcom/example/payspread/payspread/io/PaymentsFile$Format;"⟩ : MethodName)) hown125' (mvT hZ125' (hw _ (List.mem_of_getElem? (i := 36) rfl))) (mvT hZ125' (hw _ (List.mem_of_getElem? (i := 37) rfl))) (mvT hZ125' (hw _ (List.mem_of_getElem? (i := 38) rfl))) (mvT hZ125' (hw _ (List.mem_of_getElem? (i := 39) rfl))) (by decide) (backOf (W := 0) (rmN l Z a0 hw [] u125 t125 k125_ ds125 N2125 vs125 (.ref w_CSV) wV kV w_CSV w_CAMT_054 s0u s0t s0k s1u s1t s1k zc T125.heap n0 (Nat.le_trans Z0 K125.1) A125q V125q C125q B125q cd125 bd125 ln125 (Or.inl ⟨hc127, rfl⟩) (Sta.ext (own_keep_ext K125) S_V) (V_V.ext (own_keep_ext K125)) (Exa.ext (own_keep_ext K125) E_V) (Fld.ext (own_keep_ext K125) s0F) (Exa.ext (own_keep_ext K125) s0E) (Fld.ext (own_keep_ext K125) s0V) (Fld.ext (own_keep_ext K125) s0C) (s0K.ext (own_keep_ext K125)) (Fld.ext (own_keep_ext K125) s1F) (Exa.ext (own_keep_ext K125) s1E) (Fld.ext (own_keep_ext K125) s1V) (Fld.ext (own_keep_ext K125) s1C) (s1K.ext (own_keep_ext K125)) (Sta.ext (own_keep_ext K125) S_C) hzc) hZ125' (hw _ (List.mem_of_getElem? (i := 39) rfl)) (hw _ (List.mem_of_getElem? (i := 38) rfl)) (by decide) (by decide)) (g := (mkF m 277 #[.val (.int p1), .val (.int p2), .val (.long q3), .second, .val (.long q4), .second, .val (.int p5), .val (.int p6), .val (.int (p1 &&& (3 : Int32))), .val (.int ((p2 &&& (2147483647 : Int32)) % (10 : Int32))), .val (.ref b1), .val (.ref u125), .unset, .unset, .unset, .unset, .unset, .unset] [(.ref u125)])) rfl (by rw [hml]; rfl) (argsL := [(.ref u125)]) (rest := []) (lenOf pd_rm0_0 rfl) rfl (by show 2 * 0 + _ ≤ _; exact Nat.le_of_eq rfl) (hb hby at_277) (fun _ _ => ⟨rfl, rfl, (by decide : 5 + 1 ≤ _), (by decide : 31 + 2 ≤ _)⟩)
      dsimp only [Pt.U, Pt.locs, Pt.cells, Pt.slots] at X128 l128 y128 z128 st128 hQ128
      subst l128 y128 z128
      obtain ⟨rfl, N128q, E128q⟩ := hQ128
      have N128 := Fr.app N125 N128q
      have K128 : Keep h0 T128.heap [] := (K125).ext E128q
      obtain ⟨sa129, T129, h129, kk129, sb129, sk129, X129r, e129, E129, hSa129, hka129, hZ129, hown129, A129, C129, V129, K129v, la129, lb129, I129, L129, st129⟩ := ldcSVL (s := (s.setVm T125.vm)) (vm0 := T125.vm) (Ts := [""]) X128 hx hZ125' hown125' (hw _ (List.mem_of_getElem? (i := 69) rfl)) hwsS rfl ((State.WarmedH.refl (s.setVm T125.vm)).since 0) (Nat.zero_le _) (show Fr s.heap.size _ by rw [hh, ← hn0]; exact N128) (fun b cl q => by show s.heap[b]? = some cl; rw [hh]; exact hkeepZ b cl q) I125q (by decide) hh22 hcw (vs := (cs0.map Value.int)) (z := (3 : Int32)) ⟨by decide, by rfl⟩ (by decide) (by rfl) (g := (mkF m 292 #[.val (.int p1), .val (.int p2), .val (.long q3), .second, .val (.long q4), .second, .val (.int p5), .val (.int p6), .val (.int (p1 &&& (3 : Int32))), .val (.int ((p2 &&& (2147483647 : Int32)) % (10 : Int32))), .val (.ref b1), .val (.ref u125), .val (.ref w_CSV), .val .null, .unset, .unset, .unset, .unset] [(.ref u125)])) rfl (hb hby at_292) (n := 12) (by decide) (by decide) (by decide) (by decide)
      have hS129 : s.Since T129.vm h129.size := State.Since.trans hS125' ⟨hSa129.1, hSa129.2.mono hka129⟩ (Nat.le_trans (Nat.le_trans (Nat.le_refl T125.heap.size) (E128q).1) E129.1)
      have X129 : Stand p l e room_1 (s.setVm T129.vm) m #[(.int p1), (.int p2), (.long q3), (.long q4), (.int p5), (.int p6)] below meth c T129 _ _ _ := X129r
      have K129 : Keep h0 h129 [] := (K128).ext E129
      have f130 := (Exa.ext E129 (Exa.ext E128q A125q))
      have f131 := (Fld.ext E129 (Fld.ext E128q V125q))
      have f132 := (Fld.ext E129 (Fld.ext E128q C125q))
      have f133 := ((B125q.ext E128q).ext E129)
      obtain ⟨cq134, kq134, q134a, q134b, q134c⟩ := isOf hZ129 e129 f130
      obtain ⟨_, _, ⟨T134, L134, k134, n134⟩, -, X134, ⟨Lc134, hQ134, l134, y134, z134⟩, st134⟩ := X129.virtualBack hx (y := (⟨"java/lang/String", "equals", "(Ljava/lang/Object;)Z"⟩ : MethodName)) (z := (⟨"java/lang/String", "equals", "(Ljava/lang/Object;)Z"⟩ : MethodName)) hown129 (mvT hZ129 (hw _ (List.mem_of_getElem? (i := 72) rfl))) (mvT hZ129 (hw _ (List.mem_of_getElem? (i := 60) rfl))) (notFace_of_selects (args := #[]) (mvT hZ129 (hw _ (List.mem_of_getElem? (i := 62) rfl)))) (mvT hZ129 (hw _ (List.mem_of_getElem? (i := 62) rfl))) (mvT hZ129 (hw _ (List.mem_of_getElem? (i := 61) rfl))) (by decide) (StrChars.Road.eqW (W := 0) hZ129 hwsE (kI := 4) (hw _ (List.mem_of_getElem? (i := 8) rfl)) f130 f131 f132 f133 cd125 bd125 ln125 A129 V129 C129 K129v own_cod0 own_b0 (by decide) (Sta.ext (own_keep_ext K129) S_C) hzc (by decide) (by decide)) q134a q134c (g := (mkF m 294 #[.val (.int p1), .val (.int p2), .val (.long q3), .second, .val (.long q4), .second, .val (.int p5), .val (.int p6), .val (.int (p1 &&& (3 : Int32))), .val (.int ((p2 &&& (2147483647 : Int32)) % (10 : Int32))), .val (.ref b1), .val (.ref u125), .val (.ref w_CSV), .val .null, .unset, .unset, .unset, .unset] [(.ref sa129), (.ref u125)])) rfl (by rw [hml]; rfl) (Steps.refl _) (argsL := [(.ref sa129)]) (rest := []) (lenOf pd_rm0_2 rfl) rfl (by show 2 * 0 + _ ≤ _; exact Nat.le_of_eq rfl) (hb hby at_294) (fun _ _ => ⟨rfl, e129, (by decide : 8 + 0 ≤ _), (by decide : 49 + 0 ≤ _)⟩)
      dsimp only [Pt.U, Pt.locs, Pt.cells, Pt.slots] at X134 l134 y134 z134 st134 hQ134
      subst l134 y134 z134
      rcases hQ134 with ⟨⟨hv134, hd134⟩ | ⟨hv134, hd134⟩, hl134, e134⟩
      rotate_left
      · exact absurd hc127.symm hd134
      subst hv134 hl134
      have N134 := Fr.app N128 (Fr.nil n0)
      obtain ⟨T135, X135, e135, st135⟩ := getS2 X134 hx hZ129 hown129 (host := "") (Or.inl (hw _ (List.mem_of_getElem? (i := 74) rfl))) Via.refl e134 (Sta.ext (own_keep_ext K129) S_CSV) (g := (mkF m 300 #[.val (.int p1), .val (.int p2), .val (.long q3), .second, .val (.long q4), .second, .val (.int p5), .val (.int p6), .val (.int (p1 &&& (3 : Int32))), .val (.int ((p2 &&& (2147483647 : Int32)) % (10 : Int32))), .val (.ref b1), .val (.ref u125), .val (.ref w_CSV), .val .null, .unset, .unset, .unset, .unset] [])) rfl (hb hby at_300)
      obtain ⟨T136, X136, e136, st136⟩ := getS2 X135 hx hZ129 hown129 (host := "") (Or.inl (hw _ (List.mem_of_getElem? (i := 74) rfl))) Via.refl e135 (Sta.ext (own_keep_ext K129) S_CSV) (g := (mkF m 323 #[.val (.int p1), .val (.int p2), .val (.long q3), .second, .val (.long q4), .second, .val (.int p5), .val (.int p6), .val (.int (p1 &&& (3 : Int32))), .val (.int ((p2 &&& (2147483647 : Int32)) % (10 : Int32))), .val (.ref b1), .val (.ref u125), .val (.ref w_CSV), .val (.ref w_CSV), .unset, .unset, .unset, .unset] [])) rfl (hb hby at_323)
      obtain ⟨cq137, kq137, q137a, q137b, q137c⟩ := isOf hZ129 e136 (Exa.ext (own_keep_ext K129) E_CSV)
      obtain ⟨_, _, ⟨T137, L137, k137, n137⟩, -, X137, ⟨Lc137, hQ137, l137, y137, z137⟩, st137⟩ := X136.virtualBack hx (y := (⟨"com/example/payspread/payspread/io/PaymentsFile$Format", "formatName", "()Ljava/lang/String;"⟩ : MethodName)) (z := (⟨"com/example/payspread/payspread/io/PaymentsFile$Format", "formatName", "()Ljava/lang/String;"⟩ : MethodName)) hown129 (mvT hZ129 (hw _ (List.mem_of_getElem? (i := 75) rfl))) (mvT hZ129 (hw _ (List.mem_of_getElem? (i := 76) rfl))) (notFace_of_selects (args := #[]) (mvT hZ129 (hw _ (List.mem_of_getElem? (i := 78) rfl)))) (mvT hZ129 (hw _ (List.mem_of_getElem? (i := 78) rfl))) (mvT hZ129 (hw _ (List.mem_of_getElem? (i := 77) rfl))) (by decide) (backOf (W := 0) (rmG l Z a0 hw [] w_CSV s0u h129 n0 (Nat.le_trans Z0 K129.1) (Fld.ext (own_keep_ext K129) s0F)) hZ129 (hw _ (List.mem_of_getElem? (i := 79) rfl)) (hw _ (List.mem_of_getElem? (i := 38) rfl)) (by decide) (by decide)) q137a q137c (g := (mkF m 326 #[.val (.int p1), .val (.int p2), .val (.long q3), .second, .val (.long q4), .second, .val (.int p5), .val (.int p6), .val (.int (p1 &&& (3 : Int32))), .val (.int ((p2 &&& (2147483647 : Int32)) % (10 : Int32))), .val (.ref b1), .val (.ref u125), .val (.ref w_CSV), .val (.ref w_CSV), .unset, .unset, .unset, .unset] [(.ref w_CSV)])) rfl (by rw [hml]; rfl) (Steps.refl _) (argsL := []) (rest := []) (lenOf pd_rm0_1 rfl) rfl (by show 2 * 0 + _ ≤ _; exact Nat.le_of_eq rfl) (hb hby at_326) (fun _ _ => ⟨rfl, e136, (by decide : 8 + 0 ≤ _), (by decide : 49 + 0 ≤ _)⟩)
      dsimp only [Pt.U, Pt.locs, Pt.cells, Pt.slots] at X137 l137 y137 z137 st137 hQ137
      subst l137 y137 z137
      obtain ⟨rfl, N137q, e137⟩ := hQ137
      have N137 := Fr.app N134 N137q
      obtain ⟨T138, X138, e138, st138⟩ := getS2 X137 hx hZ129 hown129 (host := "") (Or.inl (hw _ (List.mem_of_getElem? (i := 80) rfl))) Via.refl e137 (Sta.ext (own_keep_ext K129) S_CAMT_054) (g := (mkF m 331 #[.val (.int p1), .val (.int p2), .val (.long q3), .second, .val (.long q4), .second, .val (.int p5), .val (.int p6), .val (.int (p1 &&& (3 : Int32))), .val (.int ((p2 &&& (2147483647 : Int32)) % (10 : Int32))), .val (.ref b1), .val (.ref u125), .val (.ref w_CSV), .val (.ref w_CSV), .val (.ref s0u), .unset, .unset, .unset] [])) rfl (hb hby at_331)
      obtain ⟨cq139, kq139, q139a, q139b, q139c⟩ := isOf hZ129 e138 (Exa.ext (own_keep_ext K129) E_CAMT_054)
      obtain ⟨_, _, ⟨T139, L139, k139, n139⟩, -, X139, ⟨Lc139, hQ139, l139, y139, z139⟩, st139⟩ := X138.virtualBack hx (y := (⟨"com/example/payspread/payspread/io/PaymentsFile$Format", "formatName", "()Ljava/lang/String;"⟩ : MethodName)) (z := (⟨"com/example/payspread/payspread/io/PaymentsFile$Format", "formatName", "()Ljava/lang/String;"⟩ : MethodName)) hown129 (mvT hZ129 (hw _ (List.mem_of_getElem? (i := 75) rfl))) (mvT hZ129 (hw _ (List.mem_of_getElem? (i := 76) rfl))) (notFace_of_selects (args := #[]) (mvT hZ129 (hw _ (List.mem_of_getElem? (i := 78) rfl)))) (mvT hZ129 (hw _ (List.mem_of_getElem? (i := 78) rfl))) (mvT hZ129 (hw _ (List.mem_of_getElem? (i := 77) rfl))) (by decide) (backOf (W := 0) (rmG l Z a0 hw [] w_CAMT_054 s1u h129 n0 (Nat.le_trans Z0 K129.1) (Fld.ext (own_keep_ext K129) s1F)) hZ129 (hw _ (List.mem_of_getElem? (i := 79) rfl)) (hw _ (List.mem_of_getElem? (i := 38) rfl)) (by decide) (by decide)) q139a q139c (g := (mkF m 334 #[.val (.int p1), .val (.int p2), .val (.long q3), .second, .val (.long q4), .second, .val (.int p5), .val (.int p6), .val (.int (p1 &&& (3 : Int32))), .val (.int ((p2 &&& (2147483647 : Int32)) % (10 : Int32))), .val (.ref b1), .val (.ref u125), .val (.ref w_CSV), .val (.ref w_CSV), .val (.ref s0u), .unset, .unset, .unset] [(.ref w_CAMT_054)])) rfl (by rw [hml]; rfl) (Steps.refl _) (argsL := []) (rest := []) (lenOf pd_rm0_1 rfl) rfl (by show 2 * 0 + _ ≤ _; exact Nat.le_of_eq rfl) (hb hby at_334) (fun _ _ => ⟨rfl, e138, (by decide : 8 + 0 ≤ _), (by decide : 49 + 0 ≤ _)⟩)
      dsimp only [Pt.U, Pt.locs, Pt.cells, Pt.slots] at X139 l139 y139 z139 st139 hQ139
      subst l139 y139 z139
      obtain ⟨rfl, N139q, e139⟩ := hQ139
      have N139 := Fr.app N137 N139q
      have f140 := (Exa.ext E129 (Exa.ext E128q (Exa.ext (own_keep_ext K125q) (Exa.ext (own_keep_ext K58) s0E))))
      have f141 := (Fld.ext E129 (Fld.ext E128q (Fld.ext (own_keep_ext K125q) (Fld.ext (own_keep_ext K58) s0V))))
      have f142 := (Fld.ext E129 (Fld.ext E128q (Fld.ext (own_keep_ext K125q) (Fld.ext (own_keep_ext K58) s0C))))
      have f143 := ((((s0K.ext (own_keep_ext K58)).ext (own_keep_ext K125q)).ext E128q).ext E129)
      obtain ⟨cq144, kq144, q144a, q144b, q144c⟩ := isOf hZ129 e139 A129
      obtain ⟨_, _, ⟨T144, L144, k144, n144⟩, -, X144, ⟨Lc144, hQ144, l144, y144, z144⟩, st144⟩ := X139.virtualBack hx (y := (⟨"java/lang/String", "equals", "(Ljava/lang/Object;)Z"⟩ : MethodName)) (z := (⟨"java/lang/String", "equals", "(Ljava/lang/Object;)Z"⟩ : MethodName)) hown129 (mvT hZ129 (hw _ (List.mem_of_getElem? (i := 72) rfl))) (mvT hZ129 (hw _ (List.mem_of_getElem? (i := 60) rfl))) (notFace_of_selects (args := #[]) (mvT hZ129 (hw _ (List.mem_of_getElem? (i := 62) rfl)))) (mvT hZ129 (hw _ (List.mem_of_getElem? (i := 62) rfl))) (mvT hZ129 (hw _ (List.mem_of_getElem? (i := 61) rfl))) (by decide) (StrChars.Road.eqW (W := 0) hZ129 hwsE (kI := 4) (hw _ (List.mem_of_getElem? (i := 8) rfl)) A129 V129 C129 K129v own_cod0 own_b0 (by decide) f140 f141 f142 f143 own_cod0 own_b0 (by decide) (Sta.ext (own_keep_ext K129) S_C) hzc (by decide) (by decide)) q144a q144c (g := (mkF m 343 #[.val (.int p1), .val (.int p2), .val (.long q3), .second, .val (.long q4), .second, .val (.int p5), .val (.int p6), .val (.int (p1 &&& (3 : Int32))), .val (.int ((p2 &&& (2147483647 : Int32)) % (10 : Int32))), .val (.ref b1), .val (.ref u125), .val (.ref w_CSV), .val (.ref w_CSV), .val (.ref s0u), .val (.ref s1u), .unset, .unset] [(.ref s0u), (.ref sa129)])) rfl (by rw [hml]; rfl) (Steps.refl _) (argsL := [(.ref s0u)]) (rest := []) (lenOf pd_rm0_2 rfl) rfl (by show 2 * 0 + _ ≤ _; exact Nat.le_of_eq rfl) (hb hby at_343) (fun _ _ => ⟨rfl, e139, (by decide : 8 + 0 ≤ _), (by decide : 49 + 0 ≤ _)⟩)
      dsimp only [Pt.U, Pt.locs, Pt.cells, Pt.slots] at X144 l144 y144 z144 st144 hQ144
      subst l144 y144 z144
      rcases hQ144 with ⟨⟨hv144, hd144⟩ | ⟨hv144, hd144⟩, hl144, e144⟩
      rotate_left
      · exact absurd rfl hd144
      subst hv144 hl144
      have N144 := Fr.app N139 (Fr.nil n0)
      obtain ⟨sa145, T145, h145, kk145, sb145, sk145, X145r, e145, E145, hSa145, hka145, hZ145, hown145, A145, C145, V145, K145v, la145, lb145, I145, L145, st145⟩ := ldcSVL (s := (s.setVm T129.vm)) (vm0 := T129.vm) (Ts := ["csv", ""]) X144 hx hZ129 hown129 (hw _ (List.mem_of_getElem? (i := 73) rfl)) hwsS e144 ((State.WarmedH.refl (s.setVm T129.vm)).since 0) (Nat.zero_le _) (show Fr s.heap.size _ by rw [hh, ← hn0]; exact N144) (fun b cl q => by show s.heap[b]? = some cl; rw [hh]; exact hkeepZ b cl q) I129 (by decide) hh34 hcw (vs := (cs1.map Value.int)) (z := (8 : Int32)) ⟨by decide, by rfl⟩ (by decide) (by rfl) (g := (mkF m 349 #[.val (.int p1), .val (.int p2), .val (.long q3), .second, .val (.long q4), .second, .val (.int p5), .val (.int p6), .val (.int (p1 &&& (3 : Int32))), .val (.int ((p2 &&& (2147483647 : Int32)) % (10 : Int32))), .val (.ref b1), .val (.ref u125), .val (.ref w_CSV), .val (.ref w_CSV), .val (.ref s0u), .val (.ref s1u), .unset, .unset] [])) rfl (hb hby at_349) (n := 32) (by decide) (by decide) (by decide) (by decide)
      have hS145 : s.Since T145.vm h145.size := State.Since.trans hS129 ⟨hSa145.1, hSa145.2.mono hka145⟩ (Nat.le_trans (Nat.le_refl h129.size) E145.1)
      have X145 : Stand p l e room_1 (s.setVm T145.vm) m #[(.int p1), (.int p2), (.long q3), (.long q4), (.int p5), (.int p6)] below meth c T145 _ _ _ := X145r
      have L129_145 := Lit.stays (s := s) (vm0 := T129.vm) L129 hSa145.1
      have K145 : Keep h0 h145 [] := (K129).ext E145
      have f146 := (Exa.ext E145 (Exa.ext E129 (Exa.ext E128q (Exa.ext (own_keep_ext K125q) (Exa.ext (own_keep_ext K58) s1E)))))
      have f147 := (Fld.ext E145 (Fld.ext E129 (Fld.ext E128q (Fld.ext (own_keep_ext K125q) (Fld.ext (own_keep_ext K58) s1V)))))
      have f148 := (Fld.ext E145 (Fld.ext E129 (Fld.ext E128q (Fld.ext (own_keep_ext K125q) (Fld.ext (own_keep_ext K58) s1C)))))
      have f149 := (((((s1K.ext (own_keep_ext K58)).ext (own_keep_ext K125q)).ext E128q).ext E129).ext E145)
      obtain ⟨cq150, kq150, q150a, q150b, q150c⟩ := isOf hZ145 e145 A145
      obtain ⟨_, _, ⟨T150, L150, k150, n150⟩, -, X150, ⟨Lc150, hQ150, l150, y150, z150⟩, st150⟩ := X145.virtualBack hx (y := (⟨"java/lang/String", "equals", "(Ljava/lang/Object;)Z"⟩ : MethodName)) (z := (⟨"java/lang/String", "equals", "(Ljava/lang/Object;)Z"⟩ : MethodName)) hown145 (mvT hZ145 (hw _ (List.mem_of_getElem? (i := 72) rfl))) (mvT hZ145 (hw _ (List.mem_of_getElem? (i := 60) rfl))) (notFace_of_selects (args := #[]) (mvT hZ145 (hw _ (List.mem_of_getElem? (i := 62) rfl)))) (mvT hZ145 (hw _ (List.mem_of_getElem? (i := 62) rfl))) (mvT hZ145 (hw _ (List.mem_of_getElem? (i := 61) rfl))) (by decide) (StrChars.Road.eqW (W := 0) hZ145 hwsE (kI := 4) (hw _ (List.mem_of_getElem? (i := 8) rfl)) A145 V145 C145 K145v own_cod1 own_b1 (by decide) f146 f147 f148 f149 own_cod1 own_b1 (by decide) (Sta.ext (own_keep_ext K145) S_C) hzc (by decide) (by decide)) q150a q150c (g := (mkF m 353 #[.val (.int p1), .val (.int p2), .val (.long q3), .second, .val (.long q4), .second, .val (.int p5), .val (.int p6), .val (.int (p1 &&& (3 : Int32))), .val (.int ((p2 &&& (2147483647 : Int32)) % (10 : Int32))), .val (.ref b1), .val (.ref u125), .val (.ref w_CSV), .val (.ref w_CSV), .val (.ref s0u), .val (.ref s1u), .unset, .unset] [(.ref s1u), (.ref sa145)])) rfl (by rw [hml]; rfl) (Steps.refl _) (argsL := [(.ref s1u)]) (rest := []) (lenOf pd_rm0_2 rfl) rfl (by show 2 * 0 + _ ≤ _; exact Nat.le_of_eq rfl) (hb hby at_353) (fun _ _ => ⟨rfl, e145, (by decide : 10 + 0 ≤ _), (by decide : 85 + 0 ≤ _)⟩)
      dsimp only [Pt.U, Pt.locs, Pt.cells, Pt.slots] at X150 l150 y150 z150 st150 hQ150
      subst l150 y150 z150
      rcases hQ150 with ⟨⟨hv150, hd150⟩ | ⟨hv150, hd150⟩, hl150, e150⟩
      rotate_left
      · exact absurd rfl hd150
      subst hv150 hl150
      have N150 := Fr.app N144 (Fr.nil n0)
      have f151 := (Exa.ext E145 f140)
      have f152 := (Fld.ext E145 f141)
      have f153 := (Fld.ext E145 f142)
      have f154 := (f143.ext E145)
      obtain ⟨_, _, ⟨T155, L155, k155, n155⟩, -, X155, ⟨Lc155, hQ155, l155, y155, z155⟩, st155⟩ := Jvm.LawKit.callS X150 hx (y := (⟨"com/example/payspread/payspread/io/PaymentsFile$Format", "named", "(Ljava/lang/String;)Lcom/example/payspread/payspread/io/PaymentsFile$Format;"⟩ : MethodName)) hown145 (mvT hZ145 (hw _ (List.mem_of_getElem? (i := 36) rfl))) (mvT hZ145 (hw _ (List.mem_of_getElem? (i := 37) rfl))) (mvT hZ145 (hw _ (List.mem_of_getElem? (i := 38) rfl))) (mvT hZ145 (hw _ (List.mem_of_getElem? (i := 39) rfl))) (by decide) (backOf (W := 0) (rmN l Z a0 hw [] s0u s0t s0k cs0 (3 : Int32) (cs0.map Value.int) (.ref w_CSV) wV kV w_CSV w_CAMT_054 s0u s0t s0k s1u s1t s1k zc h145 n0 (Nat.le_trans Z0 K145.1) f151 f152 f153 f154 own_cod0 own_b0 (by decide) (Or.inl ⟨rfl, rfl⟩) (Sta.ext (own_keep_ext K145) S_V) (V_V.ext (own_keep_ext K145)) (Exa.ext (own_keep_ext K145) E_V) (Fld.ext (own_keep_ext K145) s0F) (Exa.ext (own_keep_ext K145) s0E) (Fld.ext (own_keep_ext K145) s0V) (Fld.ext (own_keep_ext K145) s0C) (s0K.ext (own_keep_ext K145)) (Fld.ext (own_keep_ext K145) s1F) (Exa.ext (own_keep_ext K145) s1E) (Fld.ext (own_keep_ext K145) s1V) (Fld.ext (own_keep_ext K145) s1C) (s1K.ext (own_keep_ext K145)) (Sta.ext (own_keep_ext K145) S_C) hzc) hZ145 (hw _ (List.mem_of_getElem? (i := 39) rfl)) (hw _ (List.mem_of_getElem? (i := 38) rfl)) (by decide) (by decide)) (g := (mkF m 368 #[.val (.int p1), .val (.int p2), .val (.long q3), .second, .val (.long q4), .second, .val (.int p5), .val (.int p6), .val (.int (p1 &&& (3 : Int32))), .val (.int ((p2 &&& (2147483647 : Int32)) % (10 : Int32))), .val (.ref b1), .val (.ref u125), .val (.ref w_CSV), .val (.ref w_CSV), .val (.ref s0u), .val (.ref s1u), .val (.int (1 : Int32)), .unset] [(.ref s0u)])) rfl (by rw [hml]; rfl) (argsL := [(.ref s0u)]) (rest := []) (lenOf pd_rm0_0 rfl) rfl (by show 2 * 0 + _ ≤ _; exact Nat.le_of_eq rfl) (hb hby at_368) (fun _ _ => ⟨rfl, e150, (by decide : 10 + 1 ≤ _), (by decide : 85 + 2 ≤ _)⟩)
      dsimp only [Pt.U, Pt.locs, Pt.cells, Pt.slots] at X155 l155 y155 z155 st155 hQ155
      subst l155 y155 z155
      obtain ⟨rfl, N155q, E155q⟩ := hQ155
      have N155 := Fr.app N150 N155q
      have K155 : Keep h0 T155.heap [] := (K145).ext E155q
      obtain ⟨T156, X156, e156, st156⟩ := getS2 X155 hx hZ145 hown145 (host := "") (Or.inl (hw _ (List.mem_of_getElem? (i := 74) rfl))) Via.refl rfl (Sta.ext (own_keep_ext K155) S_CSV) (g := (mkF m 371 #[.val (.int p1), .val (.int p2), .val (.long q3), .second, .val (.long q4), .second, .val (.int p5), .val (.int p6), .val (.int (p1 &&& (3 : Int32))), .val (.int ((p2 &&& (2147483647 : Int32)) % (10 : Int32))), .val (.ref b1), .val (.ref u125), .val (.ref w_CSV), .val (.ref w_CSV), .val (.ref s0u), .val (.ref s1u), .val (.int (1 : Int32)), .unset] [(.ref w_CSV)])) rfl (hb hby at_371)
      have f157 := (Exa.ext E155q f146)
      have f158 := (Fld.ext E155q f147)
      have f159 := (Fld.ext E155q f148)
      have f160 := (f149.ext E155q)
      obtain ⟨_, _, ⟨T161, L161, k161, n161⟩, -, X161, ⟨Lc161, hQ161, l161, y161, z161⟩, st161⟩ := Jvm.LawKit.callS X156 hx (y := (⟨"com/example/payspread/payspread/io/PaymentsFile$Format", "named", "(Ljava/lang/String;)Lcom/example/payspread/payspread/io/PaymentsFile$Format;"⟩ : MethodName)) hown145 (mvT hZ145 (hw _ (List.mem_of_getElem? (i := 36) rfl))) (mvT hZ145 (hw _ (List.mem_of_getElem? (i := 37) rfl))) (mvT hZ145 (hw _ (List.mem_of_getElem? (i := 38) rfl))) (mvT hZ145 (hw _ (List.mem_of_getElem? (i := 39) rfl))) (by decide) (backOf (W := 0) (rmN l Z a0 hw [] s1u s1t s1k cs1 (8 : Int32) (cs1.map Value.int) (.ref w_CAMT_054) wV kV w_CSV w_CAMT_054 s0u s0t s0k s1u s1t s1k zc T155.heap n0 (Nat.le_trans Z0 K155.1) f157 f158 f159 f160 own_cod1 own_b1 (by decide) (Or.inr (Or.inl ⟨own_ne10, rfl, rfl⟩)) (Sta.ext (own_keep_ext K155) S_V) (V_V.ext (own_keep_ext K155)) (Exa.ext (own_keep_ext K155) E_V) (Fld.ext (own_keep_ext K155) s0F) (Exa.ext (own_keep_ext K155) s0E) (Fld.ext (own_keep_ext K155) s0V) (Fld.ext (own_keep_ext K155) s0C) (s0K.ext (own_keep_ext K155)) (Fld.ext (own_keep_ext K155) s1F) (Exa.ext (own_keep_ext K155) s1E) (Fld.ext (own_keep_ext K155) s1V) (Fld.ext (own_keep_ext K155) s1C) (s1K.ext (own_keep_ext K155)) (Sta.ext (own_keep_ext K155) S_C) hzc) hZ145 (hw _ (List.mem_of_getElem? (i := 39) rfl)) (hw _ (List.mem_of_getElem? (i := 38) rfl)) (by decide) (by decide)) (g := (mkF m 379 #[.val (.int p1), .val (.int p2), .val (.long q3), .second, .val (.long q4), .second, .val (.int p5), .val (.int p6), .val (.int (p1 &&& (3 : Int32))), .val (.int ((p2 &&& (2147483647 : Int32)) % (10 : Int32))), .val (.ref b1), .val (.ref u125), .val (.ref w_CSV), .val (.ref w_CSV), .val (.ref s0u), .val (.ref s1u), .val (.int (1 : Int32)), .unset] [(.ref s1u)])) rfl (by rw [hml]; rfl) (argsL := [(.ref s1u)]) (rest := []) (lenOf pd_rm0_0 rfl) rfl (by show 2 * 0 + _ ≤ _; exact Nat.le_of_eq rfl) (hb hby at_379) (fun _ _ => ⟨rfl, e156, (by decide : 11 + 1 ≤ _), (by decide : 87 + 2 ≤ _)⟩)
      dsimp only [Pt.U, Pt.locs, Pt.cells, Pt.slots] at X161 l161 y161 z161 st161 hQ161
      subst l161 y161 z161
      obtain ⟨rfl, N161q, E161q⟩ := hQ161
      have N161 := Fr.app N155 N161q
      have K161 : Keep h0 T161.heap [] := (K155).ext E161q
      obtain ⟨T162, X162, e162, st162⟩ := getS2 X161 hx hZ145 hown145 (host := "") (Or.inl (hw _ (List.mem_of_getElem? (i := 80) rfl))) Via.refl rfl (Sta.ext (own_keep_ext K161) S_CAMT_054) (g := (mkF m 382 #[.val (.int p1), .val (.int p2), .val (.long q3), .second, .val (.long q4), .second, .val (.int p5), .val (.int p6), .val (.int (p1 &&& (3 : Int32))), .val (.int ((p2 &&& (2147483647 : Int32)) % (10 : Int32))), .val (.ref b1), .val (.ref u125), .val (.ref w_CSV), .val (.ref w_CSV), .val (.ref s0u), .val (.ref s1u), .val (.int (1 : Int32)), .unset] [(.ref w_CAMT_054)])) rfl (hb hby at_382)
      obtain ⟨fs, hr, hrun, hended, hRW⟩ := Jvm.Stand.leaveW (s := s) (vm₁ := T145.vm) X162 hS145 (show _ ≤ T162.heap.size by rw [e162]; exact (Nat.le_trans (Nat.le_trans (Nat.le_refl h145.size) (E155q).1) (E161q).1)) (v := some (.int (1 : Int32))) (fun h => by rw [Bd.returns] at h; cases h)
      refine ⟨_, _, pre126 _ ?_, hrun, hended, _, _, rfl, ?_, hRW.1, hRW.2.1, hRW.2.2.1, hRW.2.2.2.mono (by decide) (by decide)⟩
      · show Steps p.tables e below (T125.setTop (mkF m 277 #[.val (.int p1), .val (.int p2), .val (.long q3), .second, .val (.long q4), .second, .val (.int p5), .val (.int p6), .val (.int (p1 &&& (3 : Int32))), .val (.int ((p2 &&& (2147483647 : Int32)) % (10 : Int32))), .val (.ref b1), .val (.ref u125), .unset, .unset, .unset, .unset, .unset, .unset] [(.ref u125)])) _
        refine st128 _ ?_
        show Steps p.tables e below (T128.setTop (mkF m 280 #[.val (.int p1), .val (.int p2), .val (.long q3), .second, .val (.long q4), .second, .val (.int p5), .val (.int p6), .val (.int (p1 &&& (3 : Int32))), .val (.int ((p2 &&& (2147483647 : Int32)) % (10 : Int32))), .val (.ref b1), .val (.ref u125), .unset, .unset, .unset, .unset, .unset, .unset] [(.ref w_CSV)])) _
        refine XS.astore X128.here hx rfl (hb hby at_280) rfl rfl (l' := #[.val (.int p1), .val (.int p2), .val (.long q3), .second, .val (.long q4), .second, .val (.int p5), .val (.int p6), .val (.int (p1 &&& (3 : Int32))), .val (.int ((p2 &&& (2147483647 : Int32)) % (10 : Int32))), .val (.ref b1), .val (.ref u125), .val (.ref w_CSV), .unset, .unset, .unset, .unset, .unset]) rfl ?_
        show Steps p.tables e below (T128.setTop (mkF m 282 #[.val (.int p1), .val (.int p2), .val (.long q3), .second, .val (.long q4), .second, .val (.int p5), .val (.int p6), .val (.int (p1 &&& (3 : Int32))), .val (.int ((p2 &&& (2147483647 : Int32)) % (10 : Int32))), .val (.ref b1), .val (.ref u125), .val (.ref w_CSV), .unset, .unset, .unset, .unset, .unset] [])) _
        refine XS.aconstNull X128.here hx rfl (hb hby at_282) ?_
        show Steps p.tables e below (T128.setTop (mkF m 283 #[.val (.int p1), .val (.int p2), .val (.long q3), .second, .val (.long q4), .second, .val (.int p5), .val (.int p6), .val (.int (p1 &&& (3 : Int32))), .val (.int ((p2 &&& (2147483647 : Int32)) % (10 : Int32))), .val (.ref b1), .val (.ref u125), .val (.ref w_CSV), .unset, .unset, .unset, .unset, .unset] [.null])) _
        refine XS.astore X128.here hx rfl (hb hby at_283) rfl rfl (l' := #[.val (.int p1), .val (.int p2), .val (.long q3), .second, .val (.long q4), .second, .val (.int p5), .val (.int p6), .val (.int (p1 &&& (3 : Int32))), .val (.int ((p2 &&& (2147483647 : Int32)) % (10 : Int32))), .val (.ref b1), .val (.ref u125), .val (.ref w_CSV), .val .null, .unset, .unset, .unset, .unset]) rfl ?_
        show Steps p.tables e below (T128.setTop (mkF m 285 #[.val (.int p1), .val (.int p2), .val (.long q3), .second, .val (.long q4), .second, .val (.int p5), .val (.int p6), .val (.int (p1 &&& (3 : Int32))), .val (.int ((p2 &&& (2147483647 : Int32)) % (10 : Int32))), .val (.ref b1), .val (.ref u125), .val (.ref w_CSV), .val .null, .unset, .unset, .unset, .unset] [])) _
        refine XS.aload X128.here hx rfl (hb hby at_285) rfl rfl ?_
        show Steps p.tables e below (T128.setTop (mkF m 287 #[.val (.int p1), .val (.int p2), .val (.long q3), .second, .val (.long q4), .second, .val (.int p5), .val (.int p6), .val (.int (p1 &&& (3 : Int32))), .val (.int ((p2 &&& (2147483647 : Int32)) % (10 : Int32))), .val (.ref b1), .val (.ref u125), .val (.ref w_CSV), .val .null, .unset, .unset, .unset, .unset] [(.ref u125)])) _
        refine XS.ifnullNo X128.here hx rfl (hb hby at_287) rfl ?_
        show Steps p.tables e below (T128.setTop (mkF m 290 #[.val (.int p1), .val (.int p2), .val (.long q3), .second, .val (.long q4), .second, .val (.int p5), .val (.int p6), .val (.int (p1 &&& (3 : Int32))), .val (.int ((p2 &&& (2147483647 : Int32)) % (10 : Int32))), .val (.ref b1), .val (.ref u125), .val (.ref w_CSV), .val .null, .unset, .unset, .unset, .unset] [])) _
        refine XS.aload X128.here hx rfl (hb hby at_290) rfl rfl ?_
        show Steps p.tables e below (T128.setTop (mkF m 292 #[.val (.int p1), .val (.int p2), .val (.long q3), .second, .val (.long q4), .second, .val (.int p5), .val (.int p6), .val (.int (p1 &&& (3 : Int32))), .val (.int ((p2 &&& (2147483647 : Int32)) % (10 : Int32))), .val (.ref b1), .val (.ref u125), .val (.ref w_CSV), .val .null, .unset, .unset, .unset, .unset] [(.ref u125)])) _
        refine st129 _ ?_
        show Steps p.tables e below (T129.setTop (mkF m 294 #[.val (.int p1), .val (.int p2), .val (.long q3), .second, .val (.long q4), .second, .val (.int p5), .val (.int p6), .val (.int (p1 &&& (3 : Int32))), .val (.int ((p2 &&& (2147483647 : Int32)) % (10 : Int32))), .val (.ref b1), .val (.ref u125), .val (.ref w_CSV), .val .null, .unset, .unset, .unset, .unset] [(.ref sa129), (.ref u125)])) _
        refine st134.trans ?_
        show Steps p.tables e below (T134.setTop (mkF m 297 #[.val (.int p1), .val (.int p2), .val (.long q3), .second, .val (.long q4), .second, .val (.int p5), .val (.int p6), .val (.int (p1 &&& (3 : Int32))), .val (.int ((p2 &&& (2147483647 : Int32)) % (10 : Int32))), .val (.ref b1), .val (.ref u125), .val (.ref w_CSV), .val .null, .unset, .unset, .unset, .unset] [(.int (1 : Int32))])) _
        refine XS.ifNo X134.here hx rfl (hb hby at_297) rfl ((if0 _ _).trans (feq (by decide : ¬ ((1 : Int32) = (0 : Int32)))).1) ?_
        show Steps p.tables e below (T134.setTop (mkF m 300 #[.val (.int p1), .val (.int p2), .val (.long q3), .second, .val (.long q4), .second, .val (.int p5), .val (.int p6), .val (.int (p1 &&& (3 : Int32))), .val (.int ((p2 &&& (2147483647 : Int32)) % (10 : Int32))), .val (.ref b1), .val (.ref u125), .val (.ref w_CSV), .val .null, .unset, .unset, .unset, .unset] [])) _
        refine st135 _ ?_
        show Steps p.tables e below (T135.setTop (mkF m 303 #[.val (.int p1), .val (.int p2), .val (.long q3), .second, .val (.long q4), .second, .val (.int p5), .val (.int p6), .val (.int (p1 &&& (3 : Int32))), .val (.int ((p2 &&& (2147483647 : Int32)) % (10 : Int32))), .val (.ref b1), .val (.ref u125), .val (.ref w_CSV), .val .null, .unset, .unset, .unset, .unset] [(.ref w_CSV)])) _
        refine XS.astore X135.here hx rfl (hb hby at_303) rfl rfl (l' := #[.val (.int p1), .val (.int p2), .val (.long q3), .second, .val (.long q4), .second, .val (.int p5), .val (.int p6), .val (.int (p1 &&& (3 : Int32))), .val (.int ((p2 &&& (2147483647 : Int32)) % (10 : Int32))), .val (.ref b1), .val (.ref u125), .val (.ref w_CSV), .val (.ref w_CSV), .unset, .unset, .unset, .unset]) rfl ?_
        show Steps p.tables e below (T135.setTop (mkF m 305 #[.val (.int p1), .val (.int p2), .val (.long q3), .second, .val (.long q4), .second, .val (.int p5), .val (.int p6), .val (.int (p1 &&& (3 : Int32))), .val (.int ((p2 &&& (2147483647 : Int32)) % (10 : Int32))), .val (.ref b1), .val (.ref u125), .val (.ref w_CSV), .val (.ref w_CSV), .unset, .unset, .unset, .unset] [])) _
        refine XS.goto X135.here hx rfl (pc0 := 305) (pc' := 323) rfl (hb hby at_305) (by decide) (by decide) ?_
        show Steps p.tables e below (T135.setTop (mkF m 323 #[.val (.int p1), .val (.int p2), .val (.long q3), .second, .val (.long q4), .second, .val (.int p5), .val (.int p6), .val (.int (p1 &&& (3 : Int32))), .val (.int ((p2 &&& (2147483647 : Int32)) % (10 : Int32))), .val (.ref b1), .val (.ref u125), .val (.ref w_CSV), .val (.ref w_CSV), .unset, .unset, .unset, .unset] [])) _
        refine st136 _ ?_
        show Steps p.tables e below (T136.setTop (mkF m 326 #[.val (.int p1), .val (.int p2), .val (.long q3), .second, .val (.long q4), .second, .val (.int p5), .val (.int p6), .val (.int (p1 &&& (3 : Int32))), .val (.int ((p2 &&& (2147483647 : Int32)) % (10 : Int32))), .val (.ref b1), .val (.ref u125), .val (.ref w_CSV), .val (.ref w_CSV), .unset, .unset, .unset, .unset] [(.ref w_CSV)])) _
        refine st137.trans ?_
        show Steps p.tables e below (T137.setTop (mkF m 329 #[.val (.int p1), .val (.int p2), .val (.long q3), .second, .val (.long q4), .second, .val (.int p5), .val (.int p6), .val (.int (p1 &&& (3 : Int32))), .val (.int ((p2 &&& (2147483647 : Int32)) % (10 : Int32))), .val (.ref b1), .val (.ref u125), .val (.ref w_CSV), .val (.ref w_CSV), .unset, .unset, .unset, .unset] [(.ref s0u)])) _
        refine XS.astore X137.here hx rfl (hb hby at_329) rfl rfl (l' := #[.val (.int p1), .val (.int p2), .val (.long q3), .second, .val (.long q4), .second, .val (.int p5), .val (.int p6), .val (.int (p1 &&& (3 : Int32))), .val (.int ((p2 &&& (2147483647 : Int32)) % (10 : Int32))), .val (.ref b1), .val (.ref u125), .val (.ref w_CSV), .val (.ref w_CSV), .val (.ref s0u), .unset, .unset, .unset]) rfl ?_
        show Steps p.tables e below (T137.setTop (mkF m 331 #[.val (.int p1), .val (.int p2), .val (.long q3), .second, .val (.long q4), .second, .val (.int p5), .val (.int p6), .val (.int (p1 &&& (3 : Int32))), .val (.int ((p2 &&& (2147483647 : Int32)) % (10 : Int32))), .val (.ref b1), .val (.ref u125), .val (.ref w_CSV), .val (.ref w_CSV), .val (.ref s0u), .unset, .unset, .unset] [])) _
        refine st138 _ ?_
        show Steps p.tables e below (T138.setTop (mkF m 334 #[.val (.int p1), .val (.int p2), .val (.long q3), .second, .val (.long q4), .second, .val (.int p5), .val (.int p6), .val (.int (p1 &&& (3 : Int32))), .val (.int ((p2 &&& (2147483647 : Int32)) % (10 : Int32))), .val (.ref b1), .val (.ref u125), .val (.ref w_CSV), .val (.ref w_CSV), .val (.ref s0u), .unset, .unset, .unset] [(.ref w_CAMT_054)])) _
        refine st139.trans ?_
        show Steps p.tables e below (T139.setTop (mkF m 337 #[.val (.int p1), .val (.int p2), .val (.long q3), .second, .val (.long q4), .second, .val (.int p5), .val (.int p6), .val (.int (p1 &&& (3 : Int32))), .val (.int ((p2 &&& (2147483647 : Int32)) % (10 : Int32))), .val (.ref b1), .val (.ref u125), .val (.ref w_CSV), .val (.ref w_CSV), .val (.ref s0u), .unset, .unset, .unset] [(.ref s1u)])) _
        refine XS.astore X139.here hx rfl (hb hby at_337) rfl rfl (l' := #[.val (.int p1), .val (.int p2), .val (.long q3), .second, .val (.long q4), .second, .val (.int p5), .val (.int p6), .val (.int (p1 &&& (3 : Int32))), .val (.int ((p2 &&& (2147483647 : Int32)) % (10 : Int32))), .val (.ref b1), .val (.ref u125), .val (.ref w_CSV), .val (.ref w_CSV), .val (.ref s0u), .val (.ref s1u), .unset, .unset]) rfl ?_
        show Steps p.tables e below (T139.setTop (mkF m 339 #[.val (.int p1), .val (.int p2), .val (.long q3), .second, .val (.long q4), .second, .val (.int p5), .val (.int p6), .val (.int (p1 &&& (3 : Int32))), .val (.int ((p2 &&& (2147483647 : Int32)) % (10 : Int32))), .val (.ref b1), .val (.ref u125), .val (.ref w_CSV), .val (.ref w_CSV), .val (.ref s0u), .val (.ref s1u), .unset, .unset] [])) _
        refine ldcAgain (s := s) (vm0 := T129.vm) X139 hx hZ129 hown129 (hw _ (List.mem_of_getElem? (i := 69) rfl)) L129 (g := (mkF m 339 #[.val (.int p1), .val (.int p2), .val (.long q3), .second, .val (.long q4), .second, .val (.int p5), .val (.int p6), .val (.int (p1 &&& (3 : Int32))), .val (.int ((p2 &&& (2147483647 : Int32)) % (10 : Int32))), .val (.ref b1), .val (.ref u125), .val (.ref w_CSV), .val (.ref w_CSV), .val (.ref s0u), .val (.ref s1u), .unset, .unset] [])) rfl (hb hby at_339) _ ?_
        show Steps p.tables e below (T139.setTop (mkF m 341 #[.val (.int p1), .val (.int p2), .val (.long q3), .second, .val (.long q4), .second, .val (.int p5), .val (.int p6), .val (.int (p1 &&& (3 : Int32))), .val (.int ((p2 &&& (2147483647 : Int32)) % (10 : Int32))), .val (.ref b1), .val (.ref u125), .val (.ref w_CSV), .val (.ref w_CSV), .val (.ref s0u), .val (.ref s1u), .unset, .unset] [(.ref sa129)])) _
        refine XS.aload X139.here hx rfl (hb hby at_341) rfl rfl ?_
        show Steps p.tables e below (T139.setTop (mkF m 343 #[.val (.int p1), .val (.int p2), .val (.long q3), .second, .val (.long q4), .second, .val (.int p5), .val (.int p6), .val (.int (p1 &&& (3 : Int32))), .val (.int ((p2 &&& (2147483647 : Int32)) % (10 : Int32))), .val (.ref b1), .val (.ref u125), .val (.ref w_CSV), .val (.ref w_CSV), .val (.ref s0u), .val (.ref s1u), .unset, .unset] [(.ref s0u), (.ref sa129)])) _
        refine st144.trans ?_
        show Steps p.tables e below (T144.setTop (mkF m 346 #[.val (.int p1), .val (.int p2), .val (.long q3), .second, .val (.long q4), .second, .val (.int p5), .val (.int p6), .val (.int (p1 &&& (3 : Int32))), .val (.int ((p2 &&& (2147483647 : Int32)) % (10 : Int32))), .val (.ref b1), .val (.ref u125), .val (.ref w_CSV), .val (.ref w_CSV), .val (.ref s0u), .val (.ref s1u), .unset, .unset] [(.int (1 : Int32))])) _
        refine XS.ifNo X144.here hx rfl (hb hby at_346) rfl ((if0 _ _).trans (feq (by decide : ¬ ((1 : Int32) = (0 : Int32)))).1) ?_
        show Steps p.tables e below (T144.setTop (mkF m 349 #[.val (.int p1), .val (.int p2), .val (.long q3), .second, .val (.long q4), .second, .val (.int p5), .val (.int p6), .val (.int (p1 &&& (3 : Int32))), .val (.int ((p2 &&& (2147483647 : Int32)) % (10 : Int32))), .val (.ref b1), .val (.ref u125), .val (.ref w_CSV), .val (.ref w_CSV), .val (.ref s0u), .val (.ref s1u), .unset, .unset] [])) _
        refine st145 _ ?_
        show Steps p.tables e below (T145.setTop (mkF m 351 #[.val (.int p1), .val (.int p2), .val (.long q3), .second, .val (.long q4), .second, .val (.int p5), .val (.int p6), .val (.int (p1 &&& (3 : Int32))), .val (.int ((p2 &&& (2147483647 : Int32)) % (10 : Int32))), .val (.ref b1), .val (.ref u125), .val (.ref w_CSV), .val (.ref w_CSV), .val (.ref s0u), .val (.ref s1u), .unset, .unset] [(.ref sa145)])) _
        refine XS.aload X145.here hx rfl (hb hby at_351) rfl rfl ?_
        show Steps p.tables e below (T145.setTop (mkF m 353 #[.val (.int p1), .val (.int p2), .val (.long q3), .second, .val (.long q4), .second, .val (.int p5), .val (.int p6), .val (.int (p1 &&& (3 : Int32))), .val (.int ((p2 &&& (2147483647 : Int32)) % (10 : Int32))), .val (.ref b1), .val (.ref u125), .val (.ref w_CSV), .val (.ref w_CSV), .val (.ref s0u), .val (.ref s1u), .unset, .unset] [(.ref s1u), (.ref sa145)])) _
        refine st150.trans ?_
        show Steps p.tables e below (T150.setTop (mkF m 356 #[.val (.int p1), .val (.int p2), .val (.long q3), .second, .val (.long q4), .second, .val (.int p5), .val (.int p6), .val (.int (p1 &&& (3 : Int32))), .val (.int ((p2 &&& (2147483647 : Int32)) % (10 : Int32))), .val (.ref b1), .val (.ref u125), .val (.ref w_CSV), .val (.ref w_CSV), .val (.ref s0u), .val (.ref s1u), .unset, .unset] [(.int (1 : Int32))])) _
        refine XS.ifNo X150.here hx rfl (hb hby at_356) rfl ((if0 _ _).trans (feq (by decide : ¬ ((1 : Int32) = (0 : Int32)))).1) ?_
        show Steps p.tables e below (T150.setTop (mkF m 359 #[.val (.int p1), .val (.int p2), .val (.long q3), .second, .val (.long q4), .second, .val (.int p5), .val (.int p6), .val (.int (p1 &&& (3 : Int32))), .val (.int ((p2 &&& (2147483647 : Int32)) % (10 : Int32))), .val (.ref b1), .val (.ref u125), .val (.ref w_CSV), .val (.ref w_CSV), .val (.ref s0u), .val (.ref s1u), .unset, .unset] [])) _
        refine XS.iconst X150.here hx rfl (hb hby at_359) ?_
        show Steps p.tables e below (T150.setTop (mkF m 360 #[.val (.int p1), .val (.int p2), .val (.long q3), .second, .val (.long q4), .second, .val (.int p5), .val (.int p6), .val (.int (p1 &&& (3 : Int32))), .val (.int ((p2 &&& (2147483647 : Int32)) % (10 : Int32))), .val (.ref b1), .val (.ref u125), .val (.ref w_CSV), .val (.ref w_CSV), .val (.ref s0u), .val (.ref s1u), .unset, .unset] [(.int (1 : Int32))])) _
        refine XS.goto X150.here hx rfl (pc0 := 360) (pc' := 364) rfl (hb hby at_360) (by decide) (by decide) ?_
        show Steps p.tables e below (T150.setTop (mkF m 364 #[.val (.int p1), .val (.int p2), .val (.long q3), .second, .val (.long q4), .second, .val (.int p5), .val (.int p6), .val (.int (p1 &&& (3 : Int32))), .val (.int ((p2 &&& (2147483647 : Int32)) % (10 : Int32))), .val (.ref b1), .val (.ref u125), .val (.ref w_CSV), .val (.ref w_CSV), .val (.ref s0u), .val (.ref s1u), .unset, .unset] [(.int (1 : Int32))])) _
        refine XS.istore X150.here hx rfl (hb hby at_364) rfl (l' := #[.val (.int p1), .val (.int p2), .val (.long q3), .second, .val (.long q4), .second, .val (.int p5), .val (.int p6), .val (.int (p1 &&& (3 : Int32))), .val (.int ((p2 &&& (2147483647 : Int32)) % (10 : Int32))), .val (.ref b1), .val (.ref u125), .val (.ref w_CSV), .val (.ref w_CSV), .val (.ref s0u), .val (.ref s1u), .val (.int (1 : Int32)), .unset]) rfl ?_
        show Steps p.tables e below (T150.setTop (mkF m 366 #[.val (.int p1), .val (.int p2), .val (.long q3), .second, .val (.long q4), .second, .val (.int p5), .val (.int p6), .val (.int (p1 &&& (3 : Int32))), .val (.int ((p2 &&& (2147483647 : Int32)) % (10 : Int32))), .val (.ref b1), .val (.ref u125), .val (.ref w_CSV), .val (.ref w_CSV), .val (.ref s0u), .val (.ref s1u), .val (.int (1 : Int32)), .unset] [])) _
        refine XS.aload X150.here hx rfl (hb hby at_366) rfl rfl ?_
        show Steps p.tables e below (T150.setTop (mkF m 368 #[.val (.int p1), .val (.int p2), .val (.long q3), .second, .val (.long q4), .second, .val (.int p5), .val (.int p6), .val (.int (p1 &&& (3 : Int32))), .val (.int ((p2 &&& (2147483647 : Int32)) % (10 : Int32))), .val (.ref b1), .val (.ref u125), .val (.ref w_CSV), .val (.ref w_CSV), .val (.ref s0u), .val (.ref s1u), .val (.int (1 : Int32)), .unset] [(.ref s0u)])) _
        refine st155 _ ?_
        show Steps p.tables e below (T155.setTop (mkF m 371 #[.val (.int p1), .val (.int p2), .val (.long q3), .second, .val (.long q4), .second, .val (.int p5), .val (.int p6), .val (.int (p1 &&& (3 : Int32))), .val (.int ((p2 &&& (2147483647 : Int32)) % (10 : Int32))), .val (.ref b1), .val (.ref u125), .val (.ref w_CSV), .val (.ref w_CSV), .val (.ref s0u), .val (.ref s1u), .val (.int (1 : Int32)), .unset] [(.ref w_CSV)])) _
        refine st156 _ ?_
        show Steps p.tables e below (T156.setTop (mkF m 374 #[.val (.int p1), .val (.int p2), .val (.long q3), .second, .val (.long q4), .second, .val (.int p5), .val (.int p6), .val (.int (p1 &&& (3 : Int32))), .val (.int ((p2 &&& (2147483647 : Int32)) % (10 : Int32))), .val (.ref b1), .val (.ref u125), .val (.ref w_CSV), .val (.ref w_CSV), .val (.ref s0u), .val (.ref s1u), .val (.int (1 : Int32)), .unset] [(.ref w_CSV), (.ref w_CSV)])) _
        refine Jvm.RoadKit.acmp (g := (mkF m 374 #[.val (.int p1), .val (.int p2), .val (.long q3), .second, .val (.long q4), .second, .val (.int p5), .val (.int p6), .val (.int (p1 &&& (3 : Int32))), .val (.int ((p2 &&& (2147483647 : Int32)) % (10 : Int32))), .val (.ref b1), .val (.ref u125), .val (.ref w_CSV), .val (.ref w_CSV), .val (.ref s0u), .val (.ref s1u), .val (.int (1 : Int32)), .unset] [(.ref w_CSV), (.ref w_CSV)])) X156 hx rfl rfl rfl (pc0 := 374) (pc' := 377) (same := true) rfl (hb hby at_374) rfl (decide_eq_true rfl) (by decide) (by decide) ?_
        show Steps p.tables e below (T156.setTop (mkF m 377 #[.val (.int p1), .val (.int p2), .val (.long q3), .second, .val (.long q4), .second, .val (.int p5), .val (.int p6), .val (.int (p1 &&& (3 : Int32))), .val (.int ((p2 &&& (2147483647 : Int32)) % (10 : Int32))), .val (.ref b1), .val (.ref u125), .val (.ref w_CSV), .val (.ref w_CSV), .val (.ref s0u), .val (.ref s1u), .val (.int (1 : Int32)), .unset] [])) _
        refine XS.aload X156.here hx rfl (hb hby at_377) rfl rfl ?_
        show Steps p.tables e below (T156.setTop (mkF m 379 #[.val (.int p1), .val (.int p2), .val (.long q3), .second, .val (.long q4), .second, .val (.int p5), .val (.int p6), .val (.int (p1 &&& (3 : Int32))), .val (.int ((p2 &&& (2147483647 : Int32)) % (10 : Int32))), .val (.ref b1), .val (.ref u125), .val (.ref w_CSV), .val (.ref w_CSV), .val (.ref s0u), .val (.ref s1u), .val (.int (1 : Int32)), .unset] [(.ref s1u)])) _
        refine st161 _ ?_
        show Steps p.tables e below (T161.setTop (mkF m 382 #[.val (.int p1), .val (.int p2), .val (.long q3), .second, .val (.long q4), .second, .val (.int p5), .val (.int p6), .val (.int (p1 &&& (3 : Int32))), .val (.int ((p2 &&& (2147483647 : Int32)) % (10 : Int32))), .val (.ref b1), .val (.ref u125), .val (.ref w_CSV), .val (.ref w_CSV), .val (.ref s0u), .val (.ref s1u), .val (.int (1 : Int32)), .unset] [(.ref w_CAMT_054)])) _
        refine st162 _ ?_
        show Steps p.tables e below (T162.setTop (mkF m 385 #[.val (.int p1), .val (.int p2), .val (.long q3), .second, .val (.long q4), .second, .val (.int p5), .val (.int p6), .val (.int (p1 &&& (3 : Int32))), .val (.int ((p2 &&& (2147483647 : Int32)) % (10 : Int32))), .val (.ref b1), .val (.ref u125), .val (.ref w_CSV), .val (.ref w_CSV), .val (.ref s0u), .val (.ref s1u), .val (.int (1 : Int32)), .unset] [(.ref w_CAMT_054), (.ref w_CAMT_054)])) _
        refine Jvm.RoadKit.acmp (g := (mkF m 385 #[.val (.int p1), .val (.int p2), .val (.long q3), .second, .val (.long q4), .second, .val (.int p5), .val (.int p6), .val (.int (p1 &&& (3 : Int32))), .val (.int ((p2 &&& (2147483647 : Int32)) % (10 : Int32))), .val (.ref b1), .val (.ref u125), .val (.ref w_CSV), .val (.ref w_CSV), .val (.ref s0u), .val (.ref s1u), .val (.int (1 : Int32)), .unset] [(.ref w_CAMT_054), (.ref w_CAMT_054)])) X162 hx rfl rfl rfl (pc0 := 385) (pc' := 388) (same := true) rfl (hb hby at_385) rfl (decide_eq_true rfl) (by decide) (by decide) ?_
        show Steps p.tables e below (T162.setTop (mkF m 388 #[.val (.int p1), .val (.int p2), .val (.long q3), .second, .val (.long q4), .second, .val (.int p5), .val (.int p6), .val (.int (p1 &&& (3 : Int32))), .val (.int ((p2 &&& (2147483647 : Int32)) % (10 : Int32))), .val (.ref b1), .val (.ref u125), .val (.ref w_CSV), .val (.ref w_CSV), .val (.ref s0u), .val (.ref s1u), .val (.int (1 : Int32)), .unset] [])) _
        refine XS.iconst X162.here hx rfl (hb hby at_388) ?_
        show Steps p.tables e below (T162.setTop (mkF m 389 #[.val (.int p1), .val (.int p2), .val (.long q3), .second, .val (.long q4), .second, .val (.int p5), .val (.int p6), .val (.int (p1 &&& (3 : Int32))), .val (.int ((p2 &&& (2147483647 : Int32)) % (10 : Int32))), .val (.ref b1), .val (.ref u125), .val (.ref w_CSV), .val (.ref w_CSV), .val (.ref s0u), .val (.ref s1u), .val (.int (1 : Int32)), .unset] [(.int (1 : Int32))])) _
        refine XS.goto X162.here hx rfl (pc0 := 389) (pc' := 393) rfl (hb hby at_389) (by decide) (by decide) ?_
        show Steps p.tables e below (T162.setTop (mkF m 393 #[.val (.int p1), .val (.int p2), .val (.long q3), .second, .val (.long q4), .second, .val (.int p5), .val (.int p6), .val (.int (p1 &&& (3 : Int32))), .val (.int ((p2 &&& (2147483647 : Int32)) % (10 : Int32))), .val (.ref b1), .val (.ref u125), .val (.ref w_CSV), .val (.ref w_CSV), .val (.ref s0u), .val (.ref s1u), .val (.int (1 : Int32)), .unset] [(.int (1 : Int32))])) _
        refine XS.istore X162.here hx rfl (hb hby at_393) rfl (l' := #[.val (.int p1), .val (.int p2), .val (.long q3), .second, .val (.long q4), .second, .val (.int p5), .val (.int p6), .val (.int (p1 &&& (3 : Int32))), .val (.int ((p2 &&& (2147483647 : Int32)) % (10 : Int32))), .val (.ref b1), .val (.ref u125), .val (.ref w_CSV), .val (.ref w_CSV), .val (.ref s0u), .val (.ref s1u), .val (.int (1 : Int32)), .val (.int (1 : Int32))]) rfl ?_
        show Steps p.tables e below (T162.setTop (mkF m 395 #[.val (.int p1), .val (.int p2), .val (.long q3), .second, .val (.long q4), .second, .val (.int p5), .val (.int p6), .val (.int (p1 &&& (3 : Int32))), .val (.int ((p2 &&& (2147483647 : Int32)) % (10 : Int32))), .val (.ref b1), .val (.ref u125), .val (.ref w_CSV), .val (.ref w_CSV), .val (.ref s0u), .val (.ref s1u), .val (.int (1 : Int32)), .val (.int (1 : Int32))] [])) _
        refine XS.aload X162.here hx rfl (hb hby at_395) rfl rfl ?_
        show Steps p.tables e below (T162.setTop (mkF m 397 #[.val (.int p1), .val (.int p2), .val (.long q3), .second, .val (.long q4), .second, .val (.int p5), .val (.int p6), .val (.int (p1 &&& (3 : Int32))), .val (.int ((p2 &&& (2147483647 : Int32)) % (10 : Int32))), .val (.ref b1), .val (.ref u125), .val (.ref w_CSV), .val (.ref w_CSV), .val (.ref s0u), .val (.ref s1u), .val (.int (1 : Int32)), .val (.int (1 : Int32))] [(.ref w_CSV)])) _
        refine XS.aload X162.here hx rfl (hb hby at_397) rfl rfl ?_
        show Steps p.tables e below (T162.setTop (mkF m 399 #[.val (.int p1), .val (.int p2), .val (.long q3), .second, .val (.long q4), .second, .val (.int p5), .val (.int p6), .val (.int (p1 &&& (3 : Int32))), .val (.int ((p2 &&& (2147483647 : Int32)) % (10 : Int32))), .val (.ref b1), .val (.ref u125), .val (.ref w_CSV), .val (.ref w_CSV), .val (.ref s0u), .val (.ref s1u), .val (.int (1 : Int32)), .val (.int (1 : Int32))] [(.ref w_CSV), (.ref w_CSV)])) _
        refine Jvm.RoadKit.acmp (g := (mkF m 399 #[.val (.int p1), .val (.int p2), .val (.long q3), .second, .val (.long q4), .second, .val (.int p5), .val (.int p6), .val (.int (p1 &&& (3 : Int32))), .val (.int ((p2 &&& (2147483647 : Int32)) % (10 : Int32))), .val (.ref b1), .val (.ref u125), .val (.ref w_CSV), .val (.ref w_CSV), .val (.ref s0u), .val (.ref s1u), .val (.int (1 : Int32)), .val (.int (1 : Int32))] [(.ref w_CSV), (.ref w_CSV)])) X162 hx rfl rfl rfl (pc0 := 399) (pc' := 402) (same := true) rfl (hb hby at_399) rfl (decide_eq_true rfl) (by decide) (by decide) ?_
        show Steps p.tables e below (T162.setTop (mkF m 402 #[.val (.int p1), .val (.int p2), .val (.long q3), .second, .val (.long q4), .second, .val (.int p5), .val (.int p6), .val (.int (p1 &&& (3 : Int32))), .val (.int ((p2 &&& (2147483647 : Int32)) % (10 : Int32))), .val (.ref b1), .val (.ref u125), .val (.ref w_CSV), .val (.ref w_CSV), .val (.ref s0u), .val (.ref s1u), .val (.int (1 : Int32)), .val (.int (1 : Int32))] [])) _
        refine XS.iload X162.here hx rfl (hb hby at_402) rfl ?_
        show Steps p.tables e below (T162.setTop (mkF m 404 #[.val (.int p1), .val (.int p2), .val (.long q3), .second, .val (.long q4), .second, .val (.int p5), .val (.int p6), .val (.int (p1 &&& (3 : Int32))), .val (.int ((p2 &&& (2147483647 : Int32)) % (10 : Int32))), .val (.ref b1), .val (.ref u125), .val (.ref w_CSV), .val (.ref w_CSV), .val (.ref s0u), .val (.ref s1u), .val (.int (1 : Int32)), .val (.int (1 : Int32))] [(.int (1 : Int32))])) _
        refine XS.ifNo X162.here hx rfl (hb hby at_404) rfl ((if0 _ _).trans (feq (by decide : ¬ ((1 : Int32) = (0 : Int32)))).1) ?_
        show Steps p.tables e below (T162.setTop (mkF m 407 #[.val (.int p1), .val (.int p2), .val (.long q3), .second, .val (.long q4), .second, .val (.int p5), .val (.int p6), .val (.int (p1 &&& (3 : Int32))), .val (.int ((p2 &&& (2147483647 : Int32)) % (10 : Int32))), .val (.ref b1), .val (.ref u125), .val (.ref w_CSV), .val (.ref w_CSV), .val (.ref s0u), .val (.ref s1u), .val (.int (1 : Int32)), .val (.int (1 : Int32))] [])) _
        refine XS.iload X162.here hx rfl (hb hby at_407) rfl ?_
        show Steps p.tables e below (T162.setTop (mkF m 409 #[.val (.int p1), .val (.int p2), .val (.long q3), .second, .val (.long q4), .second, .val (.int p5), .val (.int p6), .val (.int (p1 &&& (3 : Int32))), .val (.int ((p2 &&& (2147483647 : Int32)) % (10 : Int32))), .val (.ref b1), .val (.ref u125), .val (.ref w_CSV), .val (.ref w_CSV), .val (.ref s0u), .val (.ref s1u), .val (.int (1 : Int32)), .val (.int (1 : Int32))] [(.int (1 : Int32))])) _
        refine XS.ifNo X162.here hx rfl (hb hby at_409) rfl ((if0 _ _).trans (feq (by decide : ¬ ((1 : Int32) = (0 : Int32)))).1) ?_
        show Steps p.tables e below (T162.setTop (mkF m 412 #[.val (.int p1), .val (.int p2), .val (.long q3), .second, .val (.long q4), .second, .val (.int p5), .val (.int p6), .val (.int (p1 &&& (3 : Int32))), .val (.int ((p2 &&& (2147483647 : Int32)) % (10 : Int32))), .val (.ref b1), .val (.ref u125), .val (.ref w_CSV), .val (.ref w_CSV), .val (.ref s0u), .val (.ref s1u), .val (.int (1 : Int32)), .val (.int (1 : Int32))] [])) _
        refine XS.iconst X162.here hx rfl (hb hby at_412) ?_
        show Steps p.tables e below (T162.setTop (mkF m 413 #[.val (.int p1), .val (.int p2), .val (.long q3), .second, .val (.long q4), .second, .val (.int p5), .val (.int p6), .val (.int (p1 &&& (3 : Int32))), .val (.int ((p2 &&& (2147483647 : Int32)) % (10 : Int32))), .val (.ref b1), .val (.ref u125), .val (.ref w_CSV), .val (.ref w_CSV), .val (.ref s0u), .val (.ref s1u), .val (.int (1 : Int32)), .val (.int (1 : Int32))] [(.int (1 : Int32))])) _
        refine XS.goto X162.here hx rfl (pc0 := 413) (pc' := 417) rfl (hb hby at_413) (by decide) (by decide) ?_
        show Steps p.tables e below (T162.setTop (mkF m 417 #[.val (.int p1), .val (.int p2), .val (.long q3), .second, .val (.long q4), .second, .val (.int p5), .val (.int p6), .val (.int (p1 &&& (3 : Int32))), .val (.int ((p2 &&& (2147483647 : Int32)) % (10 : Int32))), .val (.ref b1), .val (.ref u125), .val (.ref w_CSV), .val (.ref w_CSV), .val (.ref s0u), .val (.ref s1u), .val (.int (1 : Int32)), .val (.int (1 : Int32))] [(.int (1 : Int32))])) _
        exact retN X162 hx (t := .boolean) Bd.returns (by simp) (hb hby at_417) hr
      · show Q_rm0 Z p1 p2 q3 q4 p5 p6 wV kV w_CSV w_CAMT_054 s0u s0t s0k s1u s1t s1k zc h0 n0 _ T162.heap T162.vm _
        rw [e162]
        exact ⟨rfl, N161⟩
    · by_cases hc163 : cs1 = ds125
      · obtain ⟨_, _, ⟨T164, L164, k164, n164⟩, -, X164, ⟨Lc164, hQ164, l164, y164, z164⟩, st164⟩ := Jvm.LawKit.callS X125' hx (y := (⟨"com/example/payspread/payspread/io/PaymentsFile$Format", "named", "(Ljava/lang/String;)Lcom/example/payspread/payspread/io/PaymentsFile$Format;"⟩ : MethodName)) hown125' (mvT hZ125' (hw _ (List.mem_of_getElem? (i := 36) rfl))) (mvT hZ125' (hw _ (List.mem_of_getElem? (i := 37) rfl))) (mvT hZ125' (hw _ (List.mem_of_getElem? (i := 38) rfl))) (mvT hZ125' (hw _ (List.mem_of_getElem? (i := 39) rfl))) (by decide) (backOf (W := 0) (rmN l Z a0 hw [] u125 t125 k125_ ds125 N2125 vs125 (.ref w_CAMT_054) wV kV w_CSV w_CAMT_054 s0u s0t s0k s1u s1t s1k zc T125.heap n0 (Nat.le_trans Z0 K125.1) A125q V125q C125q B125q cd125 bd125 ln125 (Or.inr (Or.inl ⟨hc127, hc163, rfl⟩)) (Sta.ext (own_keep_ext K125) S_V) (V_V.ext (own_keep_ext K125)) (Exa.ext (own_keep_ext K125) E_V) (Fld.ext (own_keep_ext K125) s0F) (Exa.ext (own_keep_ext K125) s0E) (Fld.ext (own_keep_ext K125) s0V) (Fld.ext (own_keep_ext K125) s0C) (s0K.ext (own_keep_ext K125)) (Fld.ext (own_keep_ext K125) s1F) (Exa.ext (own_keep_ext K125) s1E) (Fld.ext (own_keep_ext K125) s1V) (Fld.ext (own_keep_ext K125) s1C) (s1K.ext (own_keep_ext K125)) (Sta.ext (own_keep_ext K125) S_C) hzc) hZ125' (hw _ (List.mem_of_getElem? (i := 39) rfl)) (hw _ (List.mem_of_getElem? (i := 38) rfl)) (by decide) (by decide)) (g := (mkF m 277 #[.val (.int p1), .val (.int p2), .val (.long q3), .second, .val (.long q4), .second, .val (.int p5), .val (.int p6), .val (.int (p1 &&& (3 : Int32))), .val (.int ((p2 &&& (2147483647 : Int32)) % (10 : Int32))), .val (.ref b1), .val (.ref u125), .unset, .unset, .unset, .unset, .unset, .unset] [(.ref u125)])) rfl (by rw [hml]; rfl) (argsL := [(.ref u125)]) (rest := []) (lenOf pd_rm0_0 rfl) rfl (by show 2 * 0 + _ ≤ _; exact Nat.le_of_eq rfl) (hb hby at_277) (fun _ _ => ⟨rfl, rfl, (by decide : 5 + 1 ≤ _), (by decide : 31 + 2 ≤ _)⟩)
        dsimp only [Pt.U, Pt.locs, Pt.cells, Pt.slots] at X164 l164 y164 z164 st164 hQ164
        subst l164 y164 z164
        obtain ⟨rfl, N164q, E164q⟩ := hQ164
        have N164 := Fr.app N125 N164q
        have K164 : Keep h0 T164.heap [] := (K125).ext E164q
        obtain ⟨sa165, T165, h165, kk165, sb165, sk165, X165r, e165, E165, hSa165, hka165, hZ165, hown165, A165, C165, V165, K165v, la165, lb165, I165, L165, st165⟩ := ldcSVL (s := (s.setVm T125.vm)) (vm0 := T125.vm) (Ts := [""]) X164 hx hZ125' hown125' (hw _ (List.mem_of_getElem? (i := 69) rfl)) hwsS rfl ((State.WarmedH.refl (s.setVm T125.vm)).since 0) (Nat.zero_le _) (show Fr s.heap.size _ by rw [hh, ← hn0]; exact N164) (fun b cl q => by show s.heap[b]? = some cl; rw [hh]; exact hkeepZ b cl q) I125q (by decide) hh22 hcw (vs := (cs0.map Value.int)) (z := (3 : Int32)) ⟨by decide, by rfl⟩ (by decide) (by rfl) (g := (mkF m 292 #[.val (.int p1), .val (.int p2), .val (.long q3), .second, .val (.long q4), .second, .val (.int p5), .val (.int p6), .val (.int (p1 &&& (3 : Int32))), .val (.int ((p2 &&& (2147483647 : Int32)) % (10 : Int32))), .val (.ref b1), .val (.ref u125), .val (.ref w_CAMT_054), .val .null, .unset, .unset, .unset, .unset] [(.ref u125)])) rfl (hb hby at_292) (n := 12) (by decide) (by decide) (by decide) (by decide)
        have hS165 : s.Since T165.vm h165.size := State.Since.trans hS125' ⟨hSa165.1, hSa165.2.mono hka165⟩ (Nat.le_trans (Nat.le_trans (Nat.le_refl T125.heap.size) (E164q).1) E165.1)
        have X165 : Stand p l e room_1 (s.setVm T165.vm) m #[(.int p1), (.int p2), (.long q3), (.long q4), (.int p5), (.int p6)] below meth c T165 _ _ _ := X165r
        have K165 : Keep h0 h165 [] := (K164).ext E165
        have f166 := (Exa.ext E165 (Exa.ext E164q A125q))
        have f167 := (Fld.ext E165 (Fld.ext E164q V125q))
        have f168 := (Fld.ext E165 (Fld.ext E164q C125q))
        have f169 := ((B125q.ext E164q).ext E165)
        obtain ⟨cq170, kq170, q170a, q170b, q170c⟩ := isOf hZ165 e165 f166
        obtain ⟨_, _, ⟨T170, L170, k170, n170⟩, -, X170, ⟨Lc170, hQ170, l170, y170, z170⟩, st170⟩ := X165.virtualBack hx (y := (⟨"java/lang/String", "equals", "(Ljava/lang/Object;)Z"⟩ : MethodName)) (z := (⟨"java/lang/String", "equals", "(Ljava/lang/Object;)Z"⟩ : MethodName)) hown165 (mvT hZ165 (hw _ (List.mem_of_getElem? (i := 72) rfl))) (mvT hZ165 (hw _ (List.mem_of_getElem? (i := 60) rfl))) (notFace_of_selects (args := #[]) (mvT hZ165 (hw _ (List.mem_of_getElem? (i := 62) rfl)))) (mvT hZ165 (hw _ (List.mem_of_getElem? (i := 62) rfl))) (mvT hZ165 (hw _ (List.mem_of_getElem? (i := 61) rfl))) (by decide) (StrChars.Road.eqW (W := 0) hZ165 hwsE (kI := 4) (hw _ (List.mem_of_getElem? (i := 8) rfl)) f166 f167 f168 f169 cd125 bd125 ln125 A165 V165 C165 K165v own_cod0 own_b0 (by decide) (Sta.ext (own_keep_ext K165) S_C) hzc (by decide) (by decide)) q170a q170c (g := (mkF m 294 #[.val (.int p1), .val (.int p2), .val (.long q3), .second, .val (.long q4), .second, .val (.int p5), .val (.int p6), .val (.int (p1 &&& (3 : Int32))), .val (.int ((p2 &&& (2147483647 : Int32)) % (10 : Int32))), .val (.ref b1), .val (.ref u125), .val (.ref w_CAMT_054), .val .null, .unset, .unset, .unset, .unset] [(.ref sa165), (.ref u125)])) rfl (by rw [hml]; rfl) (Steps.refl _) (argsL := [(.ref sa165)]) (rest := []) (lenOf pd_rm0_2 rfl) rfl (by show 2 * 0 + _ ≤ _; exact Nat.le_of_eq rfl) (hb hby at_294) (fun _ _ => ⟨rfl, e165, (by decide : 8 + 0 ≤ _), (by decide : 49 + 0 ≤ _)⟩)
        dsimp only [Pt.U, Pt.locs, Pt.cells, Pt.slots] at X170 l170 y170 z170 st170 hQ170
        subst l170 y170 z170
        rcases hQ170 with ⟨⟨hv170, hd170⟩ | ⟨hv170, hd170⟩, hl170, e170⟩
        · exact absurd hd170 (fun q => hc127 q.symm)
        subst hv170 hl170
        have N170 := Fr.app N164 (Fr.nil n0)
        obtain ⟨sa171, T171, h171, kk171, sb171, sk171, X171r, e171, E171, hSa171, hka171, hZ171, hown171, A171, C171, V171, K171v, la171, lb171, I171, L171, st171⟩ := ldcSVL (s := (s.setVm T165.vm)) (vm0 := T165.vm) (Ts := ["csv", ""]) X170 hx hZ165 hown165 (hw _ (List.mem_of_getElem? (i := 73) rfl)) hwsS e170 ((State.WarmedH.refl (s.setVm T165.vm)).since 0) (Nat.zero_le _) (show Fr s.heap.size _ by rw [hh, ← hn0]; exact N170) (fun b cl q => by show s.heap[b]? = some cl; rw [hh]; exact hkeepZ b cl q) I165 (by decide) hh34 hcw (vs := (cs1.map Value.int)) (z := (8 : Int32)) ⟨by decide, by rfl⟩ (by decide) (by rfl) (g := (mkF m 310 #[.val (.int p1), .val (.int p2), .val (.long q3), .second, .val (.long q4), .second, .val (.int p5), .val (.int p6), .val (.int (p1 &&& (3 : Int32))), .val (.int ((p2 &&& (2147483647 : Int32)) % (10 : Int32))), .val (.ref b1), .val (.ref u125), .val (.ref w_CAMT_054), .val .null, .unset, .unset, .unset, .unset] [(.ref u125)])) rfl (hb hby at_310) (n := 32) (by decide) (by decide) (by decide) (by decide)
        have hS171 : s.Since T171.vm h171.size := State.Since.trans hS165 ⟨hSa171.1, hSa171.2.mono hka171⟩ (Nat.le_trans (Nat.le_refl h165.size) E171.1)
        have X171 : Stand p l e room_1 (s.setVm T171.vm) m #[(.int p1), (.int p2), (.long q3), (.long q4), (.int p5), (.int p6)] below meth c T171 _ _ _ := X171r
        have L165_171 := Lit.stays (s := s) (vm0 := T165.vm) L165 hSa171.1
        have K171 : Keep h0 h171 [] := (K165).ext E171
        have f172 := (Exa.ext E171 f166)
        have f173 := (Fld.ext E171 f167)
        have f174 := (Fld.ext E171 f168)
        have f175 := (f169.ext E171)
        obtain ⟨cq176, kq176, q176a, q176b, q176c⟩ := isOf hZ171 e171 f172
        obtain ⟨_, _, ⟨T176, L176, k176, n176⟩, -, X176, ⟨Lc176, hQ176, l176, y176, z176⟩, st176⟩ := X171.virtualBack hx (y := (⟨"java/lang/String", "equals", "(Ljava/lang/Object;)Z"⟩ : MethodName)) (z := (⟨"java/lang/String", "equals", "(Ljava/lang/Object;)Z"⟩ : MethodName)) hown171 (mvT hZ171 (hw _ (List.mem_of_getElem? (i := 72) rfl))) (mvT hZ171 (hw _ (List.mem_of_getElem? (i := 60) rfl))) (notFace_of_selects (args := #[]) (mvT hZ171 (hw _ (List.mem_of_getElem? (i := 62) rfl)))) (mvT hZ171 (hw _ (List.mem_of_getElem? (i := 62) rfl))) (mvT hZ171 (hw _ (List.mem_of_getElem? (i := 61) rfl))) (by decide) (StrChars.Road.eqW (W := 0) hZ171 hwsE (kI := 4) (hw _ (List.mem_of_getElem? (i := 8) rfl)) f172 f173 f174 f175 cd125 bd125 ln125 A171 V171 C171 K171v own_cod1 own_b1 (by decide) (Sta.ext (own_keep_ext K171) S_C) hzc (by decide) (by decide)) q176a q176c (g := (mkF m 312 #[.val (.int p1), .val (.int p2), .val (.long q3), .second, .val (.long q4), .second, .val (.int p5), .val (.int p6), .val (.int (p1 &&& (3 : Int32))), .val (.int ((p2 &&& (2147483647 : Int32)) % (10 : Int32))), .val (.ref b1), .val (.ref u125), .val (.ref w_CAMT_054), .val .null, .unset, .unset, .unset, .unset] [(.ref sa171), (.ref u125)])) rfl (by rw [hml]; rfl) (Steps.refl _) (argsL := [(.ref sa171)]) (rest := []) (lenOf pd_rm0_2 rfl) rfl (by show 2 * 0 + _ ≤ _; exact Nat.le_of_eq rfl) (hb hby at_312) (fun _ _ => ⟨rfl, e171, (by decide : 10 + 0 ≤ _), (by decide : 85 + 0 ≤ _)⟩)
        dsimp only [Pt.U, Pt.locs, Pt.cells, Pt.slots] at X176 l176 y176 z176 st176 hQ176
        subst l176 y176 z176
        rcases hQ176 with ⟨⟨hv176, hd176⟩ | ⟨hv176, hd176⟩, hl176, e176⟩
        rotate_left
        · exact absurd hc163.symm hd176
        subst hv176 hl176
        have N176 := Fr.app N170 (Fr.nil n0)
        obtain ⟨T177, X177, e177, st177⟩ := getS2 X176 hx hZ171 hown171 (host := "") (Or.inl (hw _ (List.mem_of_getElem? (i := 80) rfl))) Via.refl e176 (Sta.ext (own_keep_ext K171) S_CAMT_054) (g := (mkF m 318 #[.val (.int p1), .val (.int p2), .val (.long q3), .second, .val (.long q4), .second, .val (.int p5), .val (.int p6), .val (.int (p1 &&& (3 : Int32))), .val (.int ((p2 &&& (2147483647 : Int32)) % (10 : Int32))), .val (.ref b1), .val (.ref u125), .val (.ref w_CAMT_054), .val .null, .unset, .unset, .unset, .unset] [])) rfl (hb hby at_318)
        obtain ⟨T178, X178, e178, st178⟩ := getS2 X177 hx hZ171 hown171 (host := "") (Or.inl (hw _ (List.mem_of_getElem? (i := 74) rfl))) Via.refl e177 (Sta.ext (own_keep_ext K171) S_CSV) (g := (mkF m 323 #[.val (.int p1), .val (.int p2), .val (.long q3), .second, .val (.long q4), .second, .val (.int p5), .val (.int p6), .val (.int (p1 &&& (3 : Int32))), .val (.int ((p2 &&& (2147483647 : Int32)) % (10 : Int32))), .val (.ref b1), .val (.ref u125), .val (.ref w_CAMT_054), .val (.ref w_CAMT_054), .unset, .unset, .unset, .unset] [])) rfl (hb hby at_323)
        obtain ⟨cq179, kq179, q179a, q179b, q179c⟩ := isOf hZ171 e178 (Exa.ext (own_keep_ext K171) E_CSV)
        obtain ⟨_, _, ⟨T179, L179, k179, n179⟩, -, X179, ⟨Lc179, hQ179, l179, y179, z179⟩, st179⟩ := X178.virtualBack hx (y := (⟨"com/example/payspread/payspread/io/PaymentsFile$Format", "formatName", "()Ljava/lang/String;"⟩ : MethodName)) (z := (⟨"com/example/payspread/payspread/io/PaymentsFile$Format", "formatName", "()Ljava/lang/String;"⟩ : MethodName)) hown171 (mvT hZ171 (hw _ (List.mem_of_getElem? (i := 75) rfl))) (mvT hZ171 (hw _ (List.mem_of_getElem? (i := 76) rfl))) (notFace_of_selects (args := #[]) (mvT hZ171 (hw _ (List.mem_of_getElem? (i := 78) rfl)))) (mvT hZ171 (hw _ (List.mem_of_getElem? (i := 78) rfl))) (mvT hZ171 (hw _ (List.mem_of_getElem? (i := 77) rfl))) (by decide) (backOf (W := 0) (rmG l Z a0 hw [] w_CSV s0u h171 n0 (Nat.le_trans Z0 K171.1) (Fld.ext (own_keep_ext K171) s0F)) hZ171 (hw _ (List.mem_of_getElem? (i := 79) rfl)) (hw _ (List.mem_of_getElem? (i := 38) rfl)) (by decide) (by decide)) q179a q179c (g := (mkF m 326 #[.val (.int p1), .val (.int p2), .val (.long q3), .second, .val (.long q4), .second, .val (.int p5), .val (.int p6), .val (.int (p1 &&& (3 : Int32))), .val (.int ((p2 &&& (2147483647 : Int32)) % (10 : Int32))), .val (.ref b1), .val (.ref u125), .val (.ref w_CAMT_054), .val (.ref w_CAMT_054), .unset, .unset, .unset, .unset] [(.ref w_CSV)])) rfl (by rw [hml]; rfl) (Steps.refl _) (argsL := []) (rest := []) (lenOf pd_rm0_1 rfl) rfl (by show 2 * 0 + _ ≤ _; exact Nat.le_of_eq rfl) (hb hby at_326) (fun _ _ => ⟨rfl, e178, (by decide : 10 + 0 ≤ _), (by decide : 85 + 0 ≤ _)⟩)
        dsimp only [Pt.U, Pt.locs, Pt.cells, Pt.slots] at X179 l179 y179 z179 st179 hQ179
        subst l179 y179 z179
        obtain ⟨rfl, N179q, e179⟩ := hQ179
        have N179 := Fr.app N176 N179q
        obtain ⟨T180, X180, e180, st180⟩ := getS2 X179 hx hZ171 hown171 (host := "") (Or.inl (hw _ (List.mem_of_getElem? (i := 80) rfl))) Via.refl e179 (Sta.ext (own_keep_ext K171) S_CAMT_054) (g := (mkF m 331 #[.val (.int p1), .val (.int p2), .val (.long q3), .second, .val (.long q4), .second, .val (.int p5), .val (.int p6), .val (.int (p1 &&& (3 : Int32))), .val (.int ((p2 &&& (2147483647 : Int32)) % (10 : Int32))), .val (.ref b1), .val (.ref u125), .val (.ref w_CAMT_054), .val (.ref w_CAMT_054), .val (.ref s0u), .unset, .unset, .unset] [])) rfl (hb hby at_331)
        obtain ⟨cq181, kq181, q181a, q181b, q181c⟩ := isOf hZ171 e180 (Exa.ext (own_keep_ext K171) E_CAMT_054)
        obtain ⟨_, _, ⟨T181, L181, k181, n181⟩, -, X181, ⟨Lc181, hQ181, l181, y181, z181⟩, st181⟩ := X180.virtualBack hx (y := (⟨"com/example/payspread/payspread/io/PaymentsFile$Format", "formatName", "()Ljava/lang/String;"⟩ : MethodName)) (z := (⟨"com/example/payspread/payspread/io/PaymentsFile$Format", "formatName", "()Ljava/lang/String;"⟩ : MethodName)) hown171 (mvT hZ171 (hw _ (List.mem_of_getElem? (i := 75) rfl))) (mvT hZ171 (hw _ (List.mem_of_getElem? (i := 76) rfl))) (notFace_of_selects (args := #[]) (mvT hZ171 (hw _ (List.mem_of_getElem? (i := 78) rfl)))) (mvT hZ171 (hw _ (List.mem_of_getElem? (i := 78) rfl))) (mvT hZ171 (hw _ (List.mem_of_getElem? (i := 77) rfl))) (by decide) (backOf (W := 0) (rmG l Z a0 hw [] w_CAMT_054 s1u h171 n0 (Nat.le_trans Z0 K171.1) (Fld.ext (own_keep_ext K171) s1F)) hZ171 (hw _ (List.mem_of_getElem? (i := 79) rfl)) (hw _ (List.mem_of_getElem? (i := 38) rfl)) (by decide) (by decide)) q181a q181c (g := (mkF m 334 #[.val (.int p1), .val (.int p2), .val (.long q3), .second, .val (.long q4), .second, .val (.int p5), .val (.int p6), .val (.int (p1 &&& (3 : Int32))), .val (.int ((p2 &&& (2147483647 : Int32)) % (10 : Int32))), .val (.ref b1), .val (.ref u125), .val (.ref w_CAMT_054), .val (.ref w_CAMT_054), .val (.ref s0u), .unset, .unset, .unset] [(.ref w_CAMT_054)])) rfl (by rw [hml]; rfl) (Steps.refl _) (argsL := []) (rest := []) (lenOf pd_rm0_1 rfl) rfl (by show 2 * 0 + _ ≤ _; exact Nat.le_of_eq rfl) (hb hby at_334) (fun _ _ => ⟨rfl, e180, (by decide : 10 + 0 ≤ _), (by decide : 85 + 0 ≤ _)⟩)
        dsimp only [Pt.U, Pt.locs, Pt.cells, Pt.slots] at X181 l181 y181 z181 st181 hQ181
        subst l181 y181 z181
        obtain ⟨rfl, N181q, e181⟩ := hQ181
        have N181 := Fr.app N179 N181q
        have f182 := (Exa.ext E171 A165)
        have f183 := (Fld.ext E171 V165)
        have f184 := (Fld.ext E171 C165)
        have f185 := (K165v.ext E171)
        have f186 := (Exa.ext E171 (Exa.ext E165 (Exa.ext E164q (Exa.ext (own_keep_ext K125q) (Exa.ext (own_keep_ext K58) s0E)))))
        have f187 := (Fld.ext E171 (Fld.ext E165 (Fld.ext E164q (Fld.ext (own_keep_ext K125q) (Fld.ext (own_keep_ext K58) s0V)))))
        have f188 := (Fld.ext E171 (Fld.ext E165 (Fld.ext E164q (Fld.ext (own_keep_ext K125q) (Fld.ext (own_keep_ext K58) s0C)))))
        have f189 := (((((s0K.ext (own_keep_ext K58)).ext (own_keep_ext K125q)).ext E164q).ext E165).ext E171)
        obtain ⟨cq190, kq190, q190a, q190b, q190c⟩ := isOf hZ171 e181 f182
        obtain ⟨_, _, ⟨T190, L190, k190, n190⟩, -, X190, ⟨Lc190, hQ190, l190, y190, z190⟩, st190⟩ := X181.virtualBack hx (y := (⟨"java/lang/String", "equals", "(Ljava/lang/Object;)Z"⟩ : MethodName)) (z := (⟨"java/lang/String", "equals", "(Ljava/lang/Object;)Z"⟩ : MethodName)) hown171 (mvT hZ171 (hw _ (List.mem_of_getElem? (i := 72) rfl))) (mvT hZ171 (hw _ (List.mem_of_getElem? (i := 60) rfl))) (notFace_of_selects (args := #[]) (mvT hZ171 (hw _ (List.mem_of_getElem? (i := 62) rfl)))) (mvT hZ171 (hw _ (List.mem_of_getElem? (i := 62) rfl))) (mvT hZ171 (hw _ (List.mem_of_getElem? (i := 61) rfl))) (by decide) (StrChars.Road.eqW (W := 0) hZ171 hwsE (kI := 4) (hw _ (List.mem_of_getElem? (i := 8) rfl)) f182 f183 f184 f185 own_cod0 own_b0 (by decide) f186 f187 f188 f189 own_cod0 own_b0 (by decide) (Sta.ext (own_keep_ext K171) S_C) hzc (by decide) (by decide)) q190a q190c (g := (mkF m 343 #[.val (.int p1), .val (.int p2), .val (.long q3), .second, .val (.long q4), .second, .val (.int p5), .val (.int p6), .val (.int (p1 &&& (3 : Int32))), .val (.int ((p2 &&& (2147483647 : Int32)) % (10 : Int32))), .val (.ref b1), .val (.ref u125), .val (.ref w_CAMT_054), .val (.ref w_CAMT_054), .val (.ref s0u), .val (.ref s1u), .unset, .unset] [(.ref s0u), (.ref sa165)])) rfl (by rw [hml]; rfl) (Steps.refl _) (argsL := [(.ref s0u)]) (rest := []) (lenOf pd_rm0_2 rfl) rfl (by show 2 * 0 + _ ≤ _; exact Nat.le_of_eq rfl) (hb hby at_343) (fun _ _ => ⟨rfl, e181, (by decide : 10 + 0 ≤ _), (by decide : 85 + 0 ≤ _)⟩)
        dsimp only [Pt.U, Pt.locs, Pt.cells, Pt.slots] at X190 l190 y190 z190 st190 hQ190
        subst l190 y190 z190
        rcases hQ190 with ⟨⟨hv190, hd190⟩ | ⟨hv190, hd190⟩, hl190, e190⟩
        rotate_left
        · exact absurd rfl hd190
        subst hv190 hl190
        have N190 := Fr.app N181 (Fr.nil n0)
        have f191 := (Exa.ext E171 (Exa.ext E165 (Exa.ext E164q (Exa.ext (own_keep_ext K125q) (Exa.ext (own_keep_ext K58) s1E)))))
        have f192 := (Fld.ext E171 (Fld.ext E165 (Fld.ext E164q (Fld.ext (own_keep_ext K125q) (Fld.ext (own_keep_ext K58) s1V)))))
        have f193 := (Fld.ext E171 (Fld.ext E165 (Fld.ext E164q (Fld.ext (own_keep_ext K125q) (Fld.ext (own_keep_ext K58) s1C)))))
        have f194 := (((((s1K.ext (own_keep_ext K58)).ext (own_keep_ext K125q)).ext E164q).ext E165).ext E171)
        obtain ⟨cq195, kq195, q195a, q195b, q195c⟩ := isOf hZ171 e190 A171
        obtain ⟨_, _, ⟨T195, L195, k195, n195⟩, -, X195, ⟨Lc195, hQ195, l195, y195, z195⟩, st195⟩ := X190.virtualBack hx (y := (⟨"java/lang/String", "equals", "(Ljava/lang/Object;)Z"⟩ : MethodName)) (z := (⟨"java/lang/String", "equals", "(Ljava/lang/Object;)Z"⟩ : MethodName)) hown171 (mvT hZ171 (hw _ (List.mem_of_getElem? (i := 72) rfl))) (mvT hZ171 (hw _ (List.mem_of_getElem? (i := 60) rfl))) (notFace_of_selects (args := #[]) (mvT hZ171 (hw _ (List.mem_of_getElem? (i := 62) rfl)))) (mvT hZ171 (hw _ (List.mem_of_getElem? (i := 62) rfl))) (mvT hZ171 (hw _ (List.mem_of_getElem? (i := 61) rfl))) (by decide) (StrChars.Road.eqW (W := 0) hZ171 hwsE (kI := 4) (hw _ (List.mem_of_getElem? (i := 8) rfl)) A171 V171 C171 K171v own_cod1 own_b1 (by decide) f191 f192 f193 f194 own_cod1 own_b1 (by decide) (Sta.ext (own_keep_ext K171) S_C) hzc (by decide) (by decide)) q195a q195c (g := (mkF m 353 #[.val (.int p1), .val (.int p2), .val (.long q3), .second, .val (.long q4), .second, .val (.int p5), .val (.int p6), .val (.int (p1 &&& (3 : Int32))), .val (.int ((p2 &&& (2147483647 : Int32)) % (10 : Int32))), .val (.ref b1), .val (.ref u125), .val (.ref w_CAMT_054), .val (.ref w_CAMT_054), .val (.ref s0u), .val (.ref s1u), .unset, .unset] [(.ref s1u), (.ref sa171)])) rfl (by rw [hml]; rfl) (Steps.refl _) (argsL := [(.ref s1u)]) (rest := []) (lenOf pd_rm0_2 rfl) rfl (by show 2 * 0 + _ ≤ _; exact Nat.le_of_eq rfl) (hb hby at_353) (fun _ _ => ⟨rfl, e190, (by decide : 10 + 0 ≤ _), (by decide : 85 + 0 ≤ _)⟩)
        dsimp only [Pt.U, Pt.locs, Pt.cells, Pt.slots] at X195 l195 y195 z195 st195 hQ195
        subst l195 y195 z195
        rcases hQ195 with ⟨⟨hv195, hd195⟩ | ⟨hv195, hd195⟩, hl195, e195⟩
        rotate_left
        · exact absurd rfl hd195
        subst hv195 hl195
        have N195 := Fr.app N190 (Fr.nil n0)
        obtain ⟨_, _, ⟨T196, L196, k196, n196⟩, -, X196, ⟨Lc196, hQ196, l196, y196, z196⟩, st196⟩ := Jvm.LawKit.callS X195 hx (y := (⟨"com/example/payspread/payspread/io/PaymentsFile$Format", "named", "(Ljava/lang/String;)Lcom/example/payspread/payspread/io/PaymentsFile$Format;"⟩ : MethodName)) hown171 (mvT hZ171 (hw _ (List.mem_of_getElem? (i := 36) rfl))) (mvT hZ171 (hw _ (List.mem_of_getElem? (i := 37) rfl))) (mvT hZ171 (hw _ (List.mem_of_getElem? (i := 38) rfl))) (mvT hZ171 (hw _ (List.mem_of_getElem? (i := 39) rfl))) (by decide) (backOf (W := 0) (rmN l Z a0 hw [] s0u s0t s0k cs0 (3 : Int32) (cs0.map Value.int) (.ref w_CSV) wV kV w_CSV w_CAMT_054 s0u s0t s0k s1u s1t s1k zc h171 n0 (Nat.le_trans Z0 K171.1) f186 f187 f188 f189 own_cod0 own_b0 (by decide) (Or.inl ⟨rfl, rfl⟩) (Sta.ext (own_keep_ext K171) S_V) (V_V.ext (own_keep_ext K171)) (Exa.ext (own_keep_ext K171) E_V) (Fld.ext (own_keep_ext K171) s0F) (Exa.ext (own_keep_ext K171) s0E) (Fld.ext (own_keep_ext K171) s0V) (Fld.ext (own_keep_ext K171) s0C) (s0K.ext (own_keep_ext K171)) (Fld.ext (own_keep_ext K171) s1F) (Exa.ext (own_keep_ext K171) s1E) (Fld.ext (own_keep_ext K171) s1V) (Fld.ext (own_keep_ext K171) s1C) (s1K.ext (own_keep_ext K171)) (Sta.ext (own_keep_ext K171) S_C) hzc) hZ171 (hw _ (List.mem_of_getElem? (i := 39) rfl)) (hw _ (List.mem_of_getElem? (i := 38) rfl)) (by decide) (by decide)) (g := (mkF m 368 #[.val (.int p1), .val (.int p2), .val (.long q3), .second, .val (.long q4), .second, .val (.int p5), .val (.int p6), .val (.int (p1 &&& (3 : Int32))), .val (.int ((p2 &&& (2147483647 : Int32)) % (10 : Int32))), .val (.ref b1), .val (.ref u125), .val (.ref w_CAMT_054), .val (.ref w_CAMT_054), .val (.ref s0u), .val (.ref s1u), .val (.int (1 : Int32)), .unset] [(.ref s0u)])) rfl (by rw [hml]; rfl) (argsL := [(.ref s0u)]) (rest := []) (lenOf pd_rm0_0 rfl) rfl (by show 2 * 0 + _ ≤ _; exact Nat.le_of_eq rfl) (hb hby at_368) (fun _ _ => ⟨rfl, e195, (by decide : 10 + 1 ≤ _), (by decide : 85 + 2 ≤ _)⟩)
        dsimp only [Pt.U, Pt.locs, Pt.cells, Pt.slots] at X196 l196 y196 z196 st196 hQ196
        subst l196 y196 z196
        obtain ⟨rfl, N196q, E196q⟩ := hQ196
        have N196 := Fr.app N195 N196q
        have K196 : Keep h0 T196.heap [] := (K171).ext E196q
        obtain ⟨T197, X197, e197, st197⟩ := getS2 X196 hx hZ171 hown171 (host := "") (Or.inl (hw _ (List.mem_of_getElem? (i := 74) rfl))) Via.refl rfl (Sta.ext (own_keep_ext K196) S_CSV) (g := (mkF m 371 #[.val (.int p1), .val (.int p2), .val (.long q3), .second, .val (.long q4), .second, .val (.int p5), .val (.int p6), .val (.int (p1 &&& (3 : Int32))), .val (.int ((p2 &&& (2147483647 : Int32)) % (10 : Int32))), .val (.ref b1), .val (.ref u125), .val (.ref w_CAMT_054), .val (.ref w_CAMT_054), .val (.ref s0u), .val (.ref s1u), .val (.int (1 : Int32)), .unset] [(.ref w_CSV)])) rfl (hb hby at_371)
        have f198 := (Exa.ext E196q f191)
        have f199 := (Fld.ext E196q f192)
        have f200 := (Fld.ext E196q f193)
        have f201 := (f194.ext E196q)
        obtain ⟨_, _, ⟨T202, L202, k202, n202⟩, -, X202, ⟨Lc202, hQ202, l202, y202, z202⟩, st202⟩ := Jvm.LawKit.callS X197 hx (y := (⟨"com/example/payspread/payspread/io/PaymentsFile$Format", "named", "(Ljava/lang/String;)Lcom/example/payspread/payspread/io/PaymentsFile$Format;"⟩ : MethodName)) hown171 (mvT hZ171 (hw _ (List.mem_of_getElem? (i := 36) rfl))) (mvT hZ171 (hw _ (List.mem_of_getElem? (i := 37) rfl))) (mvT hZ171 (hw _ (List.mem_of_getElem? (i := 38) rfl))) (mvT hZ171 (hw _ (List.mem_of_getElem? (i := 39) rfl))) (by decide) (backOf (W := 0) (rmN l Z a0 hw [] s1u s1t s1k cs1 (8 : Int32) (cs1.map Value.int) (.ref w_CAMT_054) wV kV w_CSV w_CAMT_054 s0u s0t s0k s1u s1t s1k zc T196.heap n0 (Nat.le_trans Z0 K196.1) f198 f199 f200 f201 own_cod1 own_b1 (by decide) (Or.inr (Or.inl ⟨own_ne10, rfl, rfl⟩)) (Sta.ext (own_keep_ext K196) S_V) (V_V.ext (own_keep_ext K196)) (Exa.ext (own_keep_ext K196) E_V) (Fld.ext (own_keep_ext K196) s0F) (Exa.ext (own_keep_ext K196) s0E) (Fld.ext (own_keep_ext K196) s0V) (Fld.ext (own_keep_ext K196) s0C) (s0K.ext (own_keep_ext K196)) (Fld.ext (own_keep_ext K196) s1F) (Exa.ext (own_keep_ext K196) s1E) (Fld.ext (own_keep_ext K196) s1V) (Fld.ext (own_keep_ext K196) s1C) (s1K.ext (own_keep_ext K196)) (Sta.ext (own_keep_ext K196) S_C) hzc) hZ171 (hw _ (List.mem_of_getElem? (i := 39) rfl)) (hw _ (List.mem_of_getElem? (i := 38) rfl)) (by decide) (by decide)) (g := (mkF m 379 #[.val (.int p1), .val (.int p2), .val (.long q3), .second, .val (.long q4), .second, .val (.int p5), .val (.int p6), .val (.int (p1 &&& (3 : Int32))), .val (.int ((p2 &&& (2147483647 : Int32)) % (10 : Int32))), .val (.ref b1), .val (.ref u125), .val (.ref w_CAMT_054), .val (.ref w_CAMT_054), .val (.ref s0u), .val (.ref s1u), .val (.int (1 : Int32)), .unset] [(.ref s1u)])) rfl (by rw [hml]; rfl) (argsL := [(.ref s1u)]) (rest := []) (lenOf pd_rm0_0 rfl) rfl (by show 2 * 0 + _ ≤ _; exact Nat.le_of_eq rfl) (hb hby at_379) (fun _ _ => ⟨rfl, e197, (by decide : 11 + 1 ≤ _), (by decide : 87 + 2 ≤ _)⟩)
        dsimp only [Pt.U, Pt.locs, Pt.cells, Pt.slots] at X202 l202 y202 z202 st202 hQ202
        subst l202 y202 z202
        obtain ⟨rfl, N202q, E202q⟩ := hQ202
        have N202 := Fr.app N196 N202q
        have K202 : Keep h0 T202.heap [] := (K196).ext E202q
        obtain ⟨T203, X203, e203, st203⟩ := getS2 X202 hx hZ171 hown171 (host := "") (Or.inl (hw _ (List.mem_of_getElem? (i := 80) rfl))) Via.refl rfl (Sta.ext (own_keep_ext K202) S_CAMT_054) (g := (mkF m 382 #[.val (.int p1), .val (.int p2), .val (.long q3), .second, .val (.long q4), .second, .val (.int p5), .val (.int p6), .val (.int (p1 &&& (3 : Int32))), .val (.int ((p2 &&& (2147483647 : Int32)) % (10 : Int32))), .val (.ref b1), .val (.ref u125), .val (.ref w_CAMT_054), .val (.ref w_CAMT_054), .val (.ref s0u), .val (.ref s1u), .val (.int (1 : Int32)), .unset] [(.ref w_CAMT_054)])) rfl (hb hby at_382)
        obtain ⟨fs, hr, hrun, hended, hRW⟩ := Jvm.Stand.leaveW (s := s) (vm₁ := T171.vm) X203 hS171 (show _ ≤ T203.heap.size by rw [e203]; exact (Nat.le_trans (Nat.le_trans (Nat.le_refl h171.size) (E196q).1) (E202q).1)) (v := some (.int (1 : Int32))) (fun h => by rw [Bd.returns] at h; cases h)
        refine ⟨_, _, pre126 _ ?_, hrun, hended, _, _, rfl, ?_, hRW.1, hRW.2.1, hRW.2.2.1, hRW.2.2.2.mono (by decide) (by decide)⟩
        · show Steps p.tables e below (T125.setTop (mkF m 277 #[.val (.int p1), .val (.int p2), .val (.long q3), .second, .val (.long q4), .second, .val (.int p5), .val (.int p6), .val (.int (p1 &&& (3 : Int32))), .val (.int ((p2 &&& (2147483647 : Int32)) % (10 : Int32))), .val (.ref b1), .val (.ref u125), .unset, .unset, .unset, .unset, .unset, .unset] [(.ref u125)])) _
          refine st164 _ ?_
          show Steps p.tables e below (T164.setTop (mkF m 280 #[.val (.int p1), .val (.int p2), .val (.long q3), .second, .val (.long q4), .second, .val (.int p5), .val (.int p6), .val (.int (p1 &&& (3 : Int32))), .val (.int ((p2 &&& (2147483647 : Int32)) % (10 : Int32))), .val (.ref b1), .val (.ref u125), .unset, .unset, .unset, .unset, .unset, .unset] [(.ref w_CAMT_054)])) _
          refine XS.astore X164.here hx rfl (hb hby at_280) rfl rfl (l' := #[.val (.int p1), .val (.int p2), .val (.long q3), .second, .val (.long q4), .second, .val (.int p5), .val (.int p6), .val (.int (p1 &&& (3 : Int32))), .val (.int ((p2 &&& (2147483647 : Int32)) % (10 : Int32))), .val (.ref b1), .val (.ref u125), .val (.ref w_CAMT_054), .unset, .unset, .unset, .unset, .unset]) rfl ?_
          show Steps p.tables e below (T164.setTop (mkF m 282 #[.val (.int p1), .val (.int p2), .val (.long q3), .second, .val (.long q4), .second, .val (.int p5), .val (.int p6), .val (.int (p1 &&& (3 : Int32))), .val (.int ((p2 &&& (2147483647 : Int32)) % (10 : Int32))), .val (.ref b1), .val (.ref u125), .val (.ref w_CAMT_054), .unset, .unset, .unset, .unset, .unset] [])) _
          refine XS.aconstNull X164.here hx rfl (hb hby at_282) ?_
          show Steps p.tables e below (T164.setTop (mkF m 283 #[.val (.int p1), .val (.int p2), .val (.long q3), .second, .val (.long q4), .second, .val (.int p5), .val (.int p6), .val (.int (p1 &&& (3 : Int32))), .val (.int ((p2 &&& (2147483647 : Int32)) % (10 : Int32))), .val (.ref b1), .val (.ref u125), .val (.ref w_CAMT_054), .unset, .unset, .unset, .unset, .unset] [.null])) _
          refine XS.astore X164.here hx rfl (hb hby at_283) rfl rfl (l' := #[.val (.int p1), .val (.int p2), .val (.long q3), .second, .val (.long q4), .second, .val (.int p5), .val (.int p6), .val (.int (p1 &&& (3 : Int32))), .val (.int ((p2 &&& (2147483647 : Int32)) % (10 : Int32))), .val (.ref b1), .val (.ref u125), .val (.ref w_CAMT_054), .val .null, .unset, .unset, .unset, .unset]) rfl ?_
          show Steps p.tables e below (T164.setTop (mkF m 285 #[.val (.int p1), .val (.int p2), .val (.long q3), .second, .val (.long q4), .second, .val (.int p5), .val (.int p6), .val (.int (p1 &&& (3 : Int32))), .val (.int ((p2 &&& (2147483647 : Int32)) % (10 : Int32))), .val (.ref b1), .val (.ref u125), .val (.ref w_CAMT_054), .val .null, .unset, .unset, .unset, .unset] [])) _
          refine XS.aload X164.here hx rfl (hb hby at_285) rfl rfl ?_
          show Steps p.tables e below (T164.setTop (mkF m 287 #[.val (.int p1), .val (.int p2), .val (.long q3), .second, .val (.long q4), .second, .val (.int p5), .val (.int p6), .val (.int (p1 &&& (3 : Int32))), .val (.int ((p2 &&& (2147483647 : Int32)) % (10 : Int32))), .val (.ref b1), .val (.ref u125), .val (.ref w_CAMT_054), .val .null, .unset, .unset, .unset, .unset] [(.ref u125)])) _
          refine XS.ifnullNo X164.here hx rfl (hb hby at_287) rfl ?_
          show Steps p.tables e below (T164.setTop (mkF m 290 #[.val (.int p1), .val (.int p2), .val (.long q3), .second, .val (.long q4), .second, .val (.int p5), .val (.int p6), .val (.int (p1 &&& (3 : Int32))), .val (.int ((p2 &&& (2147483647 : Int32)) % (10 : Int32))), .val (.ref b1), .val (.ref u125), .val (.ref w_CAMT_054), .val .null, .unset, .unset, .unset, .unset] [])) _
          refine XS.aload X164.here hx rfl (hb hby at_290) rfl rfl ?_
          show Steps p.tables e below (T164.setTop (mkF m 292 #[.val (.int p1), .val (.int p2), .val (.long q3), .second, .val (.long q4), .second, .val (.int p5), .val (.int p6), .val (.int (p1 &&& (3 : Int32))), .val (.int ((p2 &&& (2147483647 : Int32)) % (10 : Int32))), .val (.ref b1), .val (.ref u125), .val (.ref w_CAMT_054), .val .null, .unset, .unset, .unset, .unset] [(.ref u125)])) _
          refine st165 _ ?_
          show Steps p.tables e below (T165.setTop (mkF m 294 #[.val (.int p1), .val (.int p2), .val (.long q3), .second, .val (.long q4), .second, .val (.int p5), .val (.int p6), .val (.int (p1 &&& (3 : Int32))), .val (.int ((p2 &&& (2147483647 : Int32)) % (10 : Int32))), .val (.ref b1), .val (.ref u125), .val (.ref w_CAMT_054), .val .null, .unset, .unset, .unset, .unset] [(.ref sa165), (.ref u125)])) _
          refine st170.trans ?_
          show Steps p.tables e below (T170.setTop (mkF m 297 #[.val (.int p1), .val (.int p2), .val (.long q3), .second, .val (.long q4), .second, .val (.int p5), .val (.int p6), .val (.int (p1 &&& (3 : Int32))), .val (.int ((p2 &&& (2147483647 : Int32)) % (10 : Int32))), .val (.ref b1), .val (.ref u125), .val (.ref w_CAMT_054), .val .null, .unset, .unset, .unset, .unset] [(.int (0 : Int32))])) _
          refine XS.ifYes X170.here hx rfl (pc0 := 297) (pc' := 308) rfl (hb hby at_297) rfl ((if0 _ _).trans (teq (rfl : (0 : Int32) = (0 : Int32))).1) (by decide) (by decide) ?_
          show Steps p.tables e below (T170.setTop (mkF m 308 #[.val (.int p1), .val (.int p2), .val (.long q3), .second, .val (.long q4), .second, .val (.int p5), .val (.int p6), .val (.int (p1 &&& (3 : Int32))), .val (.int ((p2 &&& (2147483647 : Int32)) % (10 : Int32))), .val (.ref b1), .val (.ref u125), .val (.ref w_CAMT_054), .val .null, .unset, .unset, .unset, .unset] [])) _
          refine XS.aload X170.here hx rfl (hb hby at_308) rfl rfl ?_
          show Steps p.tables e below (T170.setTop (mkF m 310 #[.val (.int p1), .val (.int p2), .val (.long q3), .second, .val (.long q4), .second, .val (.int p5), .val (.int p6), .val (.int (p1 &&& (3 : Int32))), .val (.int ((p2 &&& (2147483647 : Int32)) % (10 : Int32))), .val (.ref b1), .val (.ref u125), .val (.ref w_CAMT_054), .val .null, .unset, .unset, .unset, .unset] [(.ref u125)])) _
          refine st171 _ ?_
          show Steps p.tables e below (T171.setTop (mkF m 312 #[.val (.int p1), .val (.int p2), .val (.long q3), .second, .val (.long q4), .second, .val (.int p5), .val (.int p6), .val (.int (p1 &&& (3 : Int32))), .val (.int ((p2 &&& (2147483647 : Int32)) % (10 : Int32))), .val (.ref b1), .val (.ref u125), .val (.ref w_CAMT_054), .val .null, .unset, .unset, .unset, .unset] [(.ref sa171), (.ref u125)])) _
          refine st176.trans ?_
          show Steps p.tables e below (T176.setTop (mkF m 315 #[.val (.int p1), .val (.int p2), .val (.long q3), .second, .val (.long q4), .second, .val (.int p5), .val (.int p6), .val (.int (p1 &&& (3 : Int32))), .val (.int ((p2 &&& (2147483647 : Int32)) % (10 : Int32))), .val (.ref b1), .val (.ref u125), .val (.ref w_CAMT_054), .val .null, .unset, .unset, .unset, .unset] [(.int (1 : Int32))])) _
          refine XS.ifNo X176.here hx rfl (hb hby at_315) rfl ((if0 _ _).trans (feq (by decide : ¬ ((1 : Int32) = (0 : Int32)))).1) ?_
          show Steps p.tables e below (T176.setTop (mkF m 318 #[.val (.int p1), .val (.int p2), .val (.long q3), .second, .val (.long q4), .second, .val (.int p5), .val (.int p6), .val (.int (p1 &&& (3 : Int32))), .val (.int ((p2 &&& (2147483647 : Int32)) % (10 : Int32))), .val (.ref b1), .val (.ref u125), .val (.ref w_CAMT_054), .val .null, .unset, .unset, .unset, .unset] [])) _
          refine st177 _ ?_
          show Steps p.tables e below (T177.setTop (mkF m 321 #[.val (.int p1), .val (.int p2), .val (.long q3), .second, .val (.long q4), .second, .val (.int p5), .val (.int p6), .val (.int (p1 &&& (3 : Int32))), .val (.int ((p2 &&& (2147483647 : Int32)) % (10 : Int32))), .val (.ref b1), .val (.ref u125), .val (.ref w_CAMT_054), .val .null, .unset, .unset, .unset, .unset] [(.ref w_CAMT_054)])) _
          refine XS.astore X177.here hx rfl (hb hby at_321) rfl rfl (l' := #[.val (.int p1), .val (.int p2), .val (.long q3), .second, .val (.long q4), .second, .val (.int p5), .val (.int p6), .val (.int (p1 &&& (3 : Int32))), .val (.int ((p2 &&& (2147483647 : Int32)) % (10 : Int32))), .val (.ref b1), .val (.ref u125), .val (.ref w_CAMT_054), .val (.ref w_CAMT_054), .unset, .unset, .unset, .unset]) rfl ?_
          show Steps p.tables e below (T177.setTop (mkF m 323 #[.val (.int p1), .val (.int p2), .val (.long q3), .second, .val (.long q4), .second, .val (.int p5), .val (.int p6), .val (.int (p1 &&& (3 : Int32))), .val (.int ((p2 &&& (2147483647 : Int32)) % (10 : Int32))), .val (.ref b1), .val (.ref u125), .val (.ref w_CAMT_054), .val (.ref w_CAMT_054), .unset, .unset, .unset, .unset] [])) _
          refine st178 _ ?_
          show Steps p.tables e below (T178.setTop (mkF m 326 #[.val (.int p1), .val (.int p2), .val (.long q3), .second, .val (.long q4), .second, .val (.int p5), .val (.int p6), .val (.int (p1 &&& (3 : Int32))), .val (.int ((p2 &&& (2147483647 : Int32)) % (10 : Int32))), .val (.ref b1), .val (.ref u125), .val (.ref w_CAMT_054), .val (.ref w_CAMT_054), .unset, .unset, .unset, .unset] [(.ref w_CSV)])) _
          refine st179.trans ?_
          show Steps p.tables e below (T179.setTop (mkF m 329 #[.val (.int p1), .val (.int p2), .val (.long q3), .second, .val (.long q4), .second, .val (.int p5), .val (.int p6), .val (.int (p1 &&& (3 : Int32))), .val (.int ((p2 &&& (2147483647 : Int32)) % (10 : Int32))), .val (.ref b1), .val (.ref u125), .val (.ref w_CAMT_054), .val (.ref w_CAMT_054), .unset, .unset, .unset, .unset] [(.ref s0u)])) _
          refine XS.astore X179.here hx rfl (hb hby at_329) rfl rfl (l' := #[.val (.int p1), .val (.int p2), .val (.long q3), .second, .val (.long q4), .second, .val (.int p5), .val (.int p6), .val (.int (p1 &&& (3 : Int32))), .val (.int ((p2 &&& (2147483647 : Int32)) % (10 : Int32))), .val (.ref b1), .val (.ref u125), .val (.ref w_CAMT_054), .val (.ref w_CAMT_054), .val (.ref s0u), .unset, .unset, .unset]) rfl ?_
          show Steps p.tables e below (T179.setTop (mkF m 331 #[.val (.int p1), .val (.int p2), .val (.long q3), .second, .val (.long q4), .second, .val (.int p5), .val (.int p6), .val (.int (p1 &&& (3 : Int32))), .val (.int ((p2 &&& (2147483647 : Int32)) % (10 : Int32))), .val (.ref b1), .val (.ref u125), .val (.ref w_CAMT_054), .val (.ref w_CAMT_054), .val (.ref s0u), .unset, .unset, .unset] [])) _
          refine st180 _ ?_
          show Steps p.tables e below (T180.setTop (mkF m 334 #[.val (.int p1), .val (.int p2), .val (.long q3), .second, .val (.long q4), .second, .val (.int p5), .val (.int p6), .val (.int (p1 &&& (3 : Int32))), .val (.int ((p2 &&& (2147483647 : Int32)) % (10 : Int32))), .val (.ref b1), .val (.ref u125), .val (.ref w_CAMT_054), .val (.ref w_CAMT_054), .val (.ref s0u), .unset, .unset, .unset] [(.ref w_CAMT_054)])) _
          refine st181.trans ?_
          show Steps p.tables e below (T181.setTop (mkF m 337 #[.val (.int p1), .val (.int p2), .val (.long q3), .second, .val (.long q4), .second, .val (.int p5), .val (.int p6), .val (.int (p1 &&& (3 : Int32))), .val (.int ((p2 &&& (2147483647 : Int32)) % (10 : Int32))), .val (.ref b1), .val (.ref u125), .val (.ref w_CAMT_054), .val (.ref w_CAMT_054), .val (.ref s0u), .unset, .unset, .unset] [(.ref s1u)])) _
          refine XS.astore X181.here hx rfl (hb hby at_337) rfl rfl (l' := #[.val (.int p1), .val (.int p2), .val (.long q3), .second, .val (.long q4), .second, .val (.int p5), .val (.int p6), .val (.int (p1 &&& (3 : Int32))), .val (.int ((p2 &&& (2147483647 : Int32)) % (10 : Int32))), .val (.ref b1), .val (.ref u125), .val (.ref w_CAMT_054), .val (.ref w_CAMT_054), .val (.ref s0u), .val (.ref s1u), .unset, .unset]) rfl ?_
          show Steps p.tables e below (T181.setTop (mkF m 339 #[.val (.int p1), .val (.int p2), .val (.long q3), .second, .val (.long q4), .second, .val (.int p5), .val (.int p6), .val (.int (p1 &&& (3 : Int32))), .val (.int ((p2 &&& (2147483647 : Int32)) % (10 : Int32))), .val (.ref b1), .val (.ref u125), .val (.ref w_CAMT_054), .val (.ref w_CAMT_054), .val (.ref s0u), .val (.ref s1u), .unset, .unset] [])) _
          refine ldcAgain (s := s) (vm0 := T171.vm) X181 hx hZ171 hown171 (hw _ (List.mem_of_getElem? (i := 69) rfl)) L165_171 (g := (mkF m 339 #[.val (.int p1), .val (.int p2), .val (.long q3), .second, .val (.long q4), .second, .val (.int p5), .val (.int p6), .val (.int (p1 &&& (3 : Int32))), .val (.int ((p2 &&& (2147483647 : Int32)) % (10 : Int32))), .val (.ref b1), .val (.ref u125), .val (.ref w_CAMT_054), .val (.ref w_CAMT_054), .val (.ref s0u), .val (.ref s1u), .unset, .unset] [])) rfl (hb hby at_339) _ ?_
          show Steps p.tables e below (T181.setTop (mkF m 341 #[.val (.int p1), .val (.int p2), .val (.long q3), .second, .val (.long q4), .second, .val (.int p5), .val (.int p6), .val (.int (p1 &&& (3 : Int32))), .val (.int ((p2 &&& (2147483647 : Int32)) % (10 : Int32))), .val (.ref b1), .val (.ref u125), .val (.ref w_CAMT_054), .val (.ref w_CAMT_054), .val (.ref s0u), .val (.ref s1u), .unset, .unset] [(.ref sa165)])) _
          refine XS.aload X181.here hx rfl (hb hby at_341) rfl rfl ?_
          show Steps p.tables e below (T181.setTop (mkF m 343 #[.val (.int p1), .val (.int p2), .val (.long q3), .second, .val (.long q4), .second, .val (.int p5), .val (.int p6), .val (.int (p1 &&& (3 : Int32))), .val (.int ((p2 &&& (2147483647 : Int32)) % (10 : Int32))), .val (.ref b1), .val (.ref u125), .val (.ref w_CAMT_054), .val (.ref w_CAMT_054), .val (.ref s0u), .val (.ref s1u), .unset, .unset] [(.ref s0u), (.ref sa165)])) _
          refine st190.trans ?_
          show Steps p.tables e below (T190.setTop (mkF m 346 #[.val (.int p1), .val (.int p2), .val (.long q3), .second, .val (.long q4), .second, .val (.int p5), .val (.int p6), .val (.int (p1 &&& (3 : Int32))), .val (.int ((p2 &&& (2147483647 : Int32)) % (10 : Int32))), .val (.ref b1), .val (.ref u125), .val (.ref w_CAMT_054), .val (.ref w_CAMT_054), .val (.ref s0u), .val (.ref s1u), .unset, .unset] [(.int (1 : Int32))])) _
          refine XS.ifNo X190.here hx rfl (hb hby at_346) rfl ((if0 _ _).trans (feq (by decide : ¬ ((1 : Int32) = (0 : Int32)))).1) ?_
          show Steps p.tables e below (T190.setTop (mkF m 349 #[.val (.int p1), .val (.int p2), .val (.long q3), .second, .val (.long q4), .second, .val (.int p5), .val (.int p6), .val (.int (p1 &&& (3 : Int32))), .val (.int ((p2 &&& (2147483647 : Int32)) % (10 : Int32))), .val (.ref b1), .val (.ref u125), .val (.ref w_CAMT_054), .val (.ref w_CAMT_054), .val (.ref s0u), .val (.ref s1u), .unset, .unset] [])) _
          refine ldcAgain (s := s) (vm0 := T171.vm) X190 hx hZ171 hown171 (hw _ (List.mem_of_getElem? (i := 73) rfl)) L171 (g := (mkF m 349 #[.val (.int p1), .val (.int p2), .val (.long q3), .second, .val (.long q4), .second, .val (.int p5), .val (.int p6), .val (.int (p1 &&& (3 : Int32))), .val (.int ((p2 &&& (2147483647 : Int32)) % (10 : Int32))), .val (.ref b1), .val (.ref u125), .val (.ref w_CAMT_054), .val (.ref w_CAMT_054), .val (.ref s0u), .val (.ref s1u), .unset, .unset] [])) rfl (hb hby at_349) _ ?_
          show Steps p.tables e below (T190.setTop (mkF m 351 #[.val (.int p1), .val (.int p2), .val (.long q3), .second, .val (.long q4), .second, .val (.int p5), .val (.int p6), .val (.int (p1 &&& (3 : Int32))), .val (.int ((p2 &&& (2147483647 : Int32)) % (10 : Int32))), .val (.ref b1), .val (.ref u125), .val (.ref w_CAMT_054), .val (.ref w_CAMT_054), .val (.ref s0u), .val (.ref s1u), .unset, .unset] [(.ref sa171)])) _
          refine XS.aload X190.here hx rfl (hb hby at_351) rfl rfl ?_
          show Steps p.tables e below (T190.setTop (mkF m 353 #[.val (.int p1), .val (.int p2), .val (.long q3), .second, .val (.long q4), .second, .val (.int p5), .val (.int p6), .val (.int (p1 &&& (3 : Int32))), .val (.int ((p2 &&& (2147483647 : Int32)) % (10 : Int32))), .val (.ref b1), .val (.ref u125), .val (.ref w_CAMT_054), .val (.ref w_CAMT_054), .val (.ref s0u), .val (.ref s1u), .unset, .unset] [(.ref s1u), (.ref sa171)])) _
          refine st195.trans ?_
          show Steps p.tables e below (T195.setTop (mkF m 356 #[.val (.int p1), .val (.int p2), .val (.long q3), .second, .val (.long q4), .second, .val (.int p5), .val (.int p6), .val (.int (p1 &&& (3 : Int32))), .val (.int ((p2 &&& (2147483647 : Int32)) % (10 : Int32))), .val (.ref b1), .val (.ref u125), .val (.ref w_CAMT_054), .val (.ref w_CAMT_054), .val (.ref s0u), .val (.ref s1u), .unset, .unset] [(.int (1 : Int32))])) _
          refine XS.ifNo X195.here hx rfl (hb hby at_356) rfl ((if0 _ _).trans (feq (by decide : ¬ ((1 : Int32) = (0 : Int32)))).1) ?_
          show Steps p.tables e below (T195.setTop (mkF m 359 #[.val (.int p1), .val (.int p2), .val (.long q3), .second, .val (.long q4), .second, .val (.int p5), .val (.int p6), .val (.int (p1 &&& (3 : Int32))), .val (.int ((p2 &&& (2147483647 : Int32)) % (10 : Int32))), .val (.ref b1), .val (.ref u125), .val (.ref w_CAMT_054), .val (.ref w_CAMT_054), .val (.ref s0u), .val (.ref s1u), .unset, .unset] [])) _
          refine XS.iconst X195.here hx rfl (hb hby at_359) ?_
          show Steps p.tables e below (T195.setTop (mkF m 360 #[.val (.int p1), .val (.int p2), .val (.long q3), .second, .val (.long q4), .second, .val (.int p5), .val (.int p6), .val (.int (p1 &&& (3 : Int32))), .val (.int ((p2 &&& (2147483647 : Int32)) % (10 : Int32))), .val (.ref b1), .val (.ref u125), .val (.ref w_CAMT_054), .val (.ref w_CAMT_054), .val (.ref s0u), .val (.ref s1u), .unset, .unset] [(.int (1 : Int32))])) _
          refine XS.goto X195.here hx rfl (pc0 := 360) (pc' := 364) rfl (hb hby at_360) (by decide) (by decide) ?_
          show Steps p.tables e below (T195.setTop (mkF m 364 #[.val (.int p1), .val (.int p2), .val (.long q3), .second, .val (.long q4), .second, .val (.int p5), .val (.int p6), .val (.int (p1 &&& (3 : Int32))), .val (.int ((p2 &&& (2147483647 : Int32)) % (10 : Int32))), .val (.ref b1), .val (.ref u125), .val (.ref w_CAMT_054), .val (.ref w_CAMT_054), .val (.ref s0u), .val (.ref s1u), .unset, .unset] [(.int (1 : Int32))])) _
          refine XS.istore X195.here hx rfl (hb hby at_364) rfl (l' := #[.val (.int p1), .val (.int p2), .val (.long q3), .second, .val (.long q4), .second, .val (.int p5), .val (.int p6), .val (.int (p1 &&& (3 : Int32))), .val (.int ((p2 &&& (2147483647 : Int32)) % (10 : Int32))), .val (.ref b1), .val (.ref u125), .val (.ref w_CAMT_054), .val (.ref w_CAMT_054), .val (.ref s0u), .val (.ref s1u), .val (.int (1 : Int32)), .unset]) rfl ?_
          show Steps p.tables e below (T195.setTop (mkF m 366 #[.val (.int p1), .val (.int p2), .val (.long q3), .second, .val (.long q4), .second, .val (.int p5), .val (.int p6), .val (.int (p1 &&& (3 : Int32))), .val (.int ((p2 &&& (2147483647 : Int32)) % (10 : Int32))), .val (.ref b1), .val (.ref u125), .val (.ref w_CAMT_054), .val (.ref w_CAMT_054), .val (.ref s0u), .val (.ref s1u), .val (.int (1 : Int32)), .unset] [])) _
          refine XS.aload X195.here hx rfl (hb hby at_366) rfl rfl ?_
          show Steps p.tables e below (T195.setTop (mkF m 368 #[.val (.int p1), .val (.int p2), .val (.long q3), .second, .val (.long q4), .second, .val (.int p5), .val (.int p6), .val (.int (p1 &&& (3 : Int32))), .val (.int ((p2 &&& (2147483647 : Int32)) % (10 : Int32))), .val (.ref b1), .val (.ref u125), .val (.ref w_CAMT_054), .val (.ref w_CAMT_054), .val (.ref s0u), .val (.ref s1u), .val (.int (1 : Int32)), .unset] [(.ref s0u)])) _
          refine st196 _ ?_
          show Steps p.tables e below (T196.setTop (mkF m 371 #[.val (.int p1), .val (.int p2), .val (.long q3), .second, .val (.long q4), .second, .val (.int p5), .val (.int p6), .val (.int (p1 &&& (3 : Int32))), .val (.int ((p2 &&& (2147483647 : Int32)) % (10 : Int32))), .val (.ref b1), .val (.ref u125), .val (.ref w_CAMT_054), .val (.ref w_CAMT_054), .val (.ref s0u), .val (.ref s1u), .val (.int (1 : Int32)), .unset] [(.ref w_CSV)])) _
          refine st197 _ ?_
          show Steps p.tables e below (T197.setTop (mkF m 374 #[.val (.int p1), .val (.int p2), .val (.long q3), .second, .val (.long q4), .second, .val (.int p5), .val (.int p6), .val (.int (p1 &&& (3 : Int32))), .val (.int ((p2 &&& (2147483647 : Int32)) % (10 : Int32))), .val (.ref b1), .val (.ref u125), .val (.ref w_CAMT_054), .val (.ref w_CAMT_054), .val (.ref s0u), .val (.ref s1u), .val (.int (1 : Int32)), .unset] [(.ref w_CSV), (.ref w_CSV)])) _
          refine Jvm.RoadKit.acmp (g := (mkF m 374 #[.val (.int p1), .val (.int p2), .val (.long q3), .second, .val (.long q4), .second, .val (.int p5), .val (.int p6), .val (.int (p1 &&& (3 : Int32))), .val (.int ((p2 &&& (2147483647 : Int32)) % (10 : Int32))), .val (.ref b1), .val (.ref u125), .val (.ref w_CAMT_054), .val (.ref w_CAMT_054), .val (.ref s0u), .val (.ref s1u), .val (.int (1 : Int32)), .unset] [(.ref w_CSV), (.ref w_CSV)])) X197 hx rfl rfl rfl (pc0 := 374) (pc' := 377) (same := true) rfl (hb hby at_374) rfl (decide_eq_true rfl) (by decide) (by decide) ?_
          show Steps p.tables e below (T197.setTop (mkF m 377 #[.val (.int p1), .val (.int p2), .val (.long q3), .second, .val (.long q4), .second, .val (.int p5), .val (.int p6), .val (.int (p1 &&& (3 : Int32))), .val (.int ((p2 &&& (2147483647 : Int32)) % (10 : Int32))), .val (.ref b1), .val (.ref u125), .val (.ref w_CAMT_054), .val (.ref w_CAMT_054), .val (.ref s0u), .val (.ref s1u), .val (.int (1 : Int32)), .unset] [])) _
          refine XS.aload X197.here hx rfl (hb hby at_377) rfl rfl ?_
          show Steps p.tables e below (T197.setTop (mkF m 379 #[.val (.int p1), .val (.int p2), .val (.long q3), .second, .val (.long q4), .second, .val (.int p5), .val (.int p6), .val (.int (p1 &&& (3 : Int32))), .val (.int ((p2 &&& (2147483647 : Int32)) % (10 : Int32))), .val (.ref b1), .val (.ref u125), .val (.ref w_CAMT_054), .val (.ref w_CAMT_054), .val (.ref s0u), .val (.ref s1u), .val (.int (1 : Int32)), .unset] [(.ref s1u)])) _
          refine st202 _ ?_
          show Steps p.tables e below (T202.setTop (mkF m 382 #[.val (.int p1), .val (.int p2), .val (.long q3), .second, .val (.long q4), .second, .val (.int p5), .val (.int p6), .val (.int (p1 &&& (3 : Int32))), .val (.int ((p2 &&& (2147483647 : Int32)) % (10 : Int32))), .val (.ref b1), .val (.ref u125), .val (.ref w_CAMT_054), .val (.ref w_CAMT_054), .val (.ref s0u), .val (.ref s1u), .val (.int (1 : Int32)), .unset] [(.ref w_CAMT_054)])) _
          refine st203 _ ?_
          show Steps p.tables e below (T203.setTop (mkF m 385 #[.val (.int p1), .val (.int p2), .val (.long q3), .second, .val (.long q4), .second, .val (.int p5), .val (.int p6), .val (.int (p1 &&& (3 : Int32))), .val (.int ((p2 &&& (2147483647 : Int32)) % (10 : Int32))), .val (.ref b1), .val (.ref u125), .val (.ref w_CAMT_054), .val (.ref w_CAMT_054), .val (.ref s0u), .val (.ref s1u), .val (.int (1 : Int32)), .unset] [(.ref w_CAMT_054), (.ref w_CAMT_054)])) _
          refine Jvm.RoadKit.acmp (g := (mkF m 385 #[.val (.int p1), .val (.int p2), .val (.long q3), .second, .val (.long q4), .second, .val (.int p5), .val (.int p6), .val (.int (p1 &&& (3 : Int32))), .val (.int ((p2 &&& (2147483647 : Int32)) % (10 : Int32))), .val (.ref b1), .val (.ref u125), .val (.ref w_CAMT_054), .val (.ref w_CAMT_054), .val (.ref s0u), .val (.ref s1u), .val (.int (1 : Int32)), .unset] [(.ref w_CAMT_054), (.ref w_CAMT_054)])) X203 hx rfl rfl rfl (pc0 := 385) (pc' := 388) (same := true) rfl (hb hby at_385) rfl (decide_eq_true rfl) (by decide) (by decide) ?_
          show Steps p.tables e below (T203.setTop (mkF m 388 #[.val (.int p1), .val (.int p2), .val (.long q3), .second, .val (.long q4), .second, .val (.int p5), .val (.int p6), .val (.int (p1 &&& (3 : Int32))), .val (.int ((p2 &&& (2147483647 : Int32)) % (10 : Int32))), .val (.ref b1), .val (.ref u125), .val (.ref w_CAMT_054), .val (.ref w_CAMT_054), .val (.ref s0u), .val (.ref s1u), .val (.int (1 : Int32)), .unset] [])) _
          refine XS.iconst X203.here hx rfl (hb hby at_388) ?_
          show Steps p.tables e below (T203.setTop (mkF m 389 #[.val (.int p1), .val (.int p2), .val (.long q3), .second, .val (.long q4), .second, .val (.int p5), .val (.int p6), .val (.int (p1 &&& (3 : Int32))), .val (.int ((p2 &&& (2147483647 : Int32)) % (10 : Int32))), .val (.ref b1), .val (.ref u125), .val (.ref w_CAMT_054), .val (.ref w_CAMT_054), .val (.ref s0u), .val (.ref s1u), .val (.int (1 : Int32)), .unset] [(.int (1 : Int32))])) _
          refine XS.goto X203.here hx rfl (pc0 := 389) (pc' := 393) rfl (hb hby at_389) (by decide) (by decide) ?_
          show Steps p.tables e below (T203.setTop (mkF m 393 #[.val (.int p1), .val (.int p2), .val (.long q3), .second, .val (.long q4), .second, .val (.int p5), .val (.int p6), .val (.int (p1 &&& (3 : Int32))), .val (.int ((p2 &&& (2147483647 : Int32)) % (10 : Int32))), .val (.ref b1), .val (.ref u125), .val (.ref w_CAMT_054), .val (.ref w_CAMT_054), .val (.ref s0u), .val (.ref s1u), .val (.int (1 : Int32)), .unset] [(.int (1 : Int32))])) _
          refine XS.istore X203.here hx rfl (hb hby at_393) rfl (l' := #[.val (.int p1), .val (.int p2), .val (.long q3), .second, .val (.long q4), .second, .val (.int p5), .val (.int p6), .val (.int (p1 &&& (3 : Int32))), .val (.int ((p2 &&& (2147483647 : Int32)) % (10 : Int32))), .val (.ref b1), .val (.ref u125), .val (.ref w_CAMT_054), .val (.ref w_CAMT_054), .val (.ref s0u), .val (.ref s1u), .val (.int (1 : Int32)), .val (.int (1 : Int32))]) rfl ?_
          show Steps p.tables e below (T203.setTop (mkF m 395 #[.val (.int p1), .val (.int p2), .val (.long q3), .second, .val (.long q4), .second, .val (.int p5), .val (.int p6), .val (.int (p1 &&& (3 : Int32))), .val (.int ((p2 &&& (2147483647 : Int32)) % (10 : Int32))), .val (.ref b1), .val (.ref u125), .val (.ref w_CAMT_054), .val (.ref w_CAMT_054), .val (.ref s0u), .val (.ref s1u), .val (.int (1 : Int32)), .val (.int (1 : Int32))] [])) _
          refine XS.aload X203.here hx rfl (hb hby at_395) rfl rfl ?_
          show Steps p.tables e below (T203.setTop (mkF m 397 #[.val (.int p1), .val (.int p2), .val (.long q3), .second, .val (.long q4), .second, .val (.int p5), .val (.int p6), .val (.int (p1 &&& (3 : Int32))), .val (.int ((p2 &&& (2147483647 : Int32)) % (10 : Int32))), .val (.ref b1), .val (.ref u125), .val (.ref w_CAMT_054), .val (.ref w_CAMT_054), .val (.ref s0u), .val (.ref s1u), .val (.int (1 : Int32)), .val (.int (1 : Int32))] [(.ref w_CAMT_054)])) _
          refine XS.aload X203.here hx rfl (hb hby at_397) rfl rfl ?_
          show Steps p.tables e below (T203.setTop (mkF m 399 #[.val (.int p1), .val (.int p2), .val (.long q3), .second, .val (.long q4), .second, .val (.int p5), .val (.int p6), .val (.int (p1 &&& (3 : Int32))), .val (.int ((p2 &&& (2147483647 : Int32)) % (10 : Int32))), .val (.ref b1), .val (.ref u125), .val (.ref w_CAMT_054), .val (.ref w_CAMT_054), .val (.ref s0u), .val (.ref s1u), .val (.int (1 : Int32)), .val (.int (1 : Int32))] [(.ref w_CAMT_054), (.ref w_CAMT_054)])) _
          refine Jvm.RoadKit.acmp (g := (mkF m 399 #[.val (.int p1), .val (.int p2), .val (.long q3), .second, .val (.long q4), .second, .val (.int p5), .val (.int p6), .val (.int (p1 &&& (3 : Int32))), .val (.int ((p2 &&& (2147483647 : Int32)) % (10 : Int32))), .val (.ref b1), .val (.ref u125), .val (.ref w_CAMT_054), .val (.ref w_CAMT_054), .val (.ref s0u), .val (.ref s1u), .val (.int (1 : Int32)), .val (.int (1 : Int32))] [(.ref w_CAMT_054), (.ref w_CAMT_054)])) X203 hx rfl rfl rfl (pc0 := 399) (pc' := 402) (same := true) rfl (hb hby at_399) rfl (decide_eq_true rfl) (by decide) (by decide) ?_
          show Steps p.tables e below (T203.setTop (mkF m 402 #[.val (.int p1), .val (.int p2), .val (.long q3), .second, .val (.long q4), .second, .val (.int p5), .val (.int p6), .val (.int (p1 &&& (3 : Int32))), .val (.int ((p2 &&& (2147483647 : Int32)) % (10 : Int32))), .val (.ref b1), .val (.ref u125), .val (.ref w_CAMT_054), .val (.ref w_CAMT_054), .val (.ref s0u), .val (.ref s1u), .val (.int (1 : Int32)), .val (.int (1 : Int32))] [])) _
          refine XS.iload X203.here hx rfl (hb hby at_402) rfl ?_
          show Steps p.tables e below (T203.setTop (mkF m 404 #[.val (.int p1), .val (.int p2), .val (.long q3), .second, .val (.long q4), .second, .val (.int p5), .val (.int p6), .val (.int (p1 &&& (3 : Int32))), .val (.int ((p2 &&& (2147483647 : Int32)) % (10 : Int32))), .val (.ref b1), .val (.ref u125), .val (.ref w_CAMT_054), .val (.ref w_CAMT_054), .val (.ref s0u), .val (.ref s1u), .val (.int (1 : Int32)), .val (.int (1 : Int32))] [(.int (1 : Int32))])) _
          refine XS.ifNo X203.here hx rfl (hb hby at_404) rfl ((if0 _ _).trans (feq (by decide : ¬ ((1 : Int32) = (0 : Int32)))).1) ?_
          show Steps p.tables e below (T203.setTop (mkF m 407 #[.val (.int p1), .val (.int p2), .val (.long q3), .second, .val (.long q4), .second, .val (.int p5), .val (.int p6), .val (.int (p1 &&& (3 : Int32))), .val (.int ((p2 &&& (2147483647 : Int32)) % (10 : Int32))), .val (.ref b1), .val (.ref u125), .val (.ref w_CAMT_054), .val (.ref w_CAMT_054), .val (.ref s0u), .val (.ref s1u), .val (.int (1 : Int32)), .val (.int (1 : Int32))] [])) _
          refine XS.iload X203.here hx rfl (hb hby at_407) rfl ?_
          show Steps p.tables e below (T203.setTop (mkF m 409 #[.val (.int p1), .val (.int p2), .val (.long q3), .second, .val (.long q4), .second, .val (.int p5), .val (.int p6), .val (.int (p1 &&& (3 : Int32))), .val (.int ((p2 &&& (2147483647 : Int32)) % (10 : Int32))), .val (.ref b1), .val (.ref u125), .val (.ref w_CAMT_054), .val (.ref w_CAMT_054), .val (.ref s0u), .val (.ref s1u), .val (.int (1 : Int32)), .val (.int (1 : Int32))] [(.int (1 : Int32))])) _
          refine XS.ifNo X203.here hx rfl (hb hby at_409) rfl ((if0 _ _).trans (feq (by decide : ¬ ((1 : Int32) = (0 : Int32)))).1) ?_
          show Steps p.tables e below (T203.setTop (mkF m 412 #[.val (.int p1), .val (.int p2), .val (.long q3), .second, .val (.long q4), .second, .val (.int p5), .val (.int p6), .val (.int (p1 &&& (3 : Int32))), .val (.int ((p2 &&& (2147483647 : Int32)) % (10 : Int32))), .val (.ref b1), .val (.ref u125), .val (.ref w_CAMT_054), .val (.ref w_CAMT_054), .val (.ref s0u), .val (.ref s1u), .val (.int (1 : Int32)), .val (.int (1 : Int32))] [])) _
          refine XS.iconst X203.here hx rfl (hb hby at_412) ?_
          show Steps p.tables e below (T203.setTop (mkF m 413 #[.val (.int p1), .val (.int p2), .val (.long q3), .second, .val (.long q4), .second, .val (.int p5), .val (.int p6), .val (.int (p1 &&& (3 : Int32))), .val (.int ((p2 &&& (2147483647 : Int32)) % (10 : Int32))), .val (.ref b1), .val (.ref u125), .val (.ref w_CAMT_054), .val (.ref w_CAMT_054), .val (.ref s0u), .val (.ref s1u), .val (.int (1 : Int32)), .val (.int (1 : Int32))] [(.int (1 : Int32))])) _
          refine XS.goto X203.here hx rfl (pc0 := 413) (pc' := 417) rfl (hb hby at_413) (by decide) (by decide) ?_
          show Steps p.tables e below (T203.setTop (mkF m 417 #[.val (.int p1), .val (.int p2), .val (.long q3), .second, .val (.long q4), .second, .val (.int p5), .val (.int p6), .val (.int (p1 &&& (3 : Int32))), .val (.int ((p2 &&& (2147483647 : Int32)) % (10 : Int32))), .val (.ref b1), .val (.ref u125), .val (.ref w_CAMT_054), .val (.ref w_CAMT_054), .val (.ref s0u), .val (.ref s1u), .val (.int (1 : Int32)), .val (.int (1 : Int32))] [(.int (1 : Int32))])) _
          exact retN X203 hx (t := .boolean) Bd.returns (by simp) (hb hby at_417) hr
        · show Q_rm0 Z p1 p2 q3 q4 p5 p6 wV kV w_CSV w_CAMT_054 s0u s0t s0k s1u s1t s1k zc h0 n0 _ T203.heap T203.vm _
          rw [e203]
          exact ⟨rfl, N202⟩
      · obtain ⟨_, _, ⟨T204, L204, k204, n204⟩, -, X204, ⟨Lc204, hQ204, l204, y204, z204⟩, st204⟩ := Jvm.LawKit.callS X125' hx (y := (⟨"com/example/payspread/payspread/io/PaymentsFile$Format", "named", "(Ljava/lang/String;)Lcom/example/payspread/payspread/io/PaymentsFile$Format;"⟩ : MethodName)) hown125' (mvT hZ125' (hw _ (List.mem_of_getElem? (i := 36) rfl))) (mvT hZ125' (hw _ (List.mem_of_getElem? (i := 37) rfl))) (mvT hZ125' (hw _ (List.mem_of_getElem? (i := 38) rfl))) (mvT hZ125' (hw _ (List.mem_of_getElem? (i := 39) rfl))) (by decide) (backOf (W := 0) (rmN l Z a0 hw [] u125 t125 k125_ ds125 N2125 vs125 .null wV kV w_CSV w_CAMT_054 s0u s0t s0k s1u s1t s1k zc T125.heap n0 (Nat.le_trans Z0 K125.1) A125q V125q C125q B125q cd125 bd125 ln125 (Or.inr (Or.inr ⟨hc127, hc163, rfl⟩)) (Sta.ext (own_keep_ext K125) S_V) (V_V.ext (own_keep_ext K125)) (Exa.ext (own_keep_ext K125) E_V) (Fld.ext (own_keep_ext K125) s0F) (Exa.ext (own_keep_ext K125) s0E) (Fld.ext (own_keep_ext K125) s0V) (Fld.ext (own_keep_ext K125) s0C) (s0K.ext (own_keep_ext K125)) (Fld.ext (own_keep_ext K125) s1F) (Exa.ext (own_keep_ext K125) s1E) (Fld.ext (own_keep_ext K125) s1V) (Fld.ext (own_keep_ext K125) s1C) (s1K.ext (own_keep_ext K125)) (Sta.ext (own_keep_ext K125) S_C) hzc) hZ125' (hw _ (List.mem_of_getElem? (i := 39) rfl)) (hw _ (List.mem_of_getElem? (i := 38) rfl)) (by decide) (by decide)) (g := (mkF m 277 #[.val (.int p1), .val (.int p2), .val (.long q3), .second, .val (.long q4), .second, .val (.int p5), .val (.int p6), .val (.int (p1 &&& (3 : Int32))), .val (.int ((p2 &&& (2147483647 : Int32)) % (10 : Int32))), .val (.ref b1), .val (.ref u125), .unset, .unset, .unset, .unset, .unset, .unset] [(.ref u125)])) rfl (by rw [hml]; rfl) (argsL := [(.ref u125)]) (rest := []) (lenOf pd_rm0_0 rfl) rfl (by show 2 * 0 + _ ≤ _; exact Nat.le_of_eq rfl) (hb hby at_277) (fun _ _ => ⟨rfl, rfl, (by decide : 5 + 1 ≤ _), (by decide : 31 + 2 ≤ _)⟩)
        dsimp only [Pt.U, Pt.locs, Pt.cells, Pt.slots] at X204 l204 y204 z204 st204 hQ204
        subst l204 y204 z204
        obtain ⟨rfl, N204q, E204q⟩ := hQ204
        have N204 := Fr.app N125 N204q
        have K204 : Keep h0 T204.heap [] := (K125).ext E204q
        obtain ⟨sa205, T205, h205, kk205, sb205, sk205, X205r, e205, E205, hSa205, hka205, hZ205, hown205, A205, C205, V205, K205v, la205, lb205, I205, L205, st205⟩ := ldcSVL (s := (s.setVm T125.vm)) (vm0 := T125.vm) (Ts := [""]) X204 hx hZ125' hown125' (hw _ (List.mem_of_getElem? (i := 69) rfl)) hwsS rfl ((State.WarmedH.refl (s.setVm T125.vm)).since 0) (Nat.zero_le _) (show Fr s.heap.size _ by rw [hh, ← hn0]; exact N204) (fun b cl q => by show s.heap[b]? = some cl; rw [hh]; exact hkeepZ b cl q) I125q (by decide) hh22 hcw (vs := (cs0.map Value.int)) (z := (3 : Int32)) ⟨by decide, by rfl⟩ (by decide) (by rfl) (g := (mkF m 292 #[.val (.int p1), .val (.int p2), .val (.long q3), .second, .val (.long q4), .second, .val (.int p5), .val (.int p6), .val (.int (p1 &&& (3 : Int32))), .val (.int ((p2 &&& (2147483647 : Int32)) % (10 : Int32))), .val (.ref b1), .val (.ref u125), .val .null, .val .null, .unset, .unset, .unset, .unset] [(.ref u125)])) rfl (hb hby at_292) (n := 12) (by decide) (by decide) (by decide) (by decide)
        have hS205 : s.Since T205.vm h205.size := State.Since.trans hS125' ⟨hSa205.1, hSa205.2.mono hka205⟩ (Nat.le_trans (Nat.le_trans (Nat.le_refl T125.heap.size) (E204q).1) E205.1)
        have X205 : Stand p l e room_1 (s.setVm T205.vm) m #[(.int p1), (.int p2), (.long q3), (.long q4), (.int p5), (.int p6)] below meth c T205 _ _ _ := X205r
        have K205 : Keep h0 h205 [] := (K204).ext E205
        have f206 := (Exa.ext E205 (Exa.ext E204q A125q))
        have f207 := (Fld.ext E205 (Fld.ext E204q V125q))
        have f208 := (Fld.ext E205 (Fld.ext E204q C125q))
        have f209 := ((B125q.ext E204q).ext E205)
        obtain ⟨cq210, kq210, q210a, q210b, q210c⟩ := isOf hZ205 e205 f206
        obtain ⟨_, _, ⟨T210, L210, k210, n210⟩, -, X210, ⟨Lc210, hQ210, l210, y210, z210⟩, st210⟩ := X205.virtualBack hx (y := (⟨"java/lang/String", "equals", "(Ljava/lang/Object;)Z"⟩ : MethodName)) (z := (⟨"java/lang/String", "equals", "(Ljava/lang/Object;)Z"⟩ : MethodName)) hown205 (mvT hZ205 (hw _ (List.mem_of_getElem? (i := 72) rfl))) (mvT hZ205 (hw _ (List.mem_of_getElem? (i := 60) rfl))) (notFace_of_selects (args := #[]) (mvT hZ205 (hw _ (List.mem_of_getElem? (i := 62) rfl)))) (mvT hZ205 (hw _ (List.mem_of_getElem? (i := 62) rfl))) (mvT hZ205 (hw _ (List.mem_of_getElem? (i := 61) rfl))) (by decide) (StrChars.Road.eqW (W := 0) hZ205 hwsE (kI := 4) (hw _ (List.mem_of_getElem? (i := 8) rfl)) f206 f207 f208 f209 cd125 bd125 ln125 A205 V205 C205 K205v own_cod0 own_b0 (by decide) (Sta.ext (own_keep_ext K205) S_C) hzc (by decide) (by decide)) q210a q210c (g := (mkF m 294 #[.val (.int p1), .val (.int p2), .val (.long q3), .second, .val (.long q4), .second, .val (.int p5), .val (.int p6), .val (.int (p1 &&& (3 : Int32))), .val (.int ((p2 &&& (2147483647 : Int32)) % (10 : Int32))), .val (.ref b1), .val (.ref u125), .val .null, .val .null, .unset, .unset, .unset, .unset] [(.ref sa205), (.ref u125)])) rfl (by rw [hml]; rfl) (Steps.refl _) (argsL := [(.ref sa205)]) (rest := []) (lenOf pd_rm0_2 rfl) rfl (by show 2 * 0 + _ ≤ _; exact Nat.le_of_eq rfl) (hb hby at_294) (fun _ _ => ⟨rfl, e205, (by decide : 8 + 0 ≤ _), (by decide : 49 + 0 ≤ _)⟩)
        dsimp only [Pt.U, Pt.locs, Pt.cells, Pt.slots] at X210 l210 y210 z210 st210 hQ210
        subst l210 y210 z210
        rcases hQ210 with ⟨⟨hv210, hd210⟩ | ⟨hv210, hd210⟩, hl210, e210⟩
        · exact absurd hd210 (fun q => hc127 q.symm)
        subst hv210 hl210
        have N210 := Fr.app N204 (Fr.nil n0)
        obtain ⟨sa211, T211, h211, kk211, sb211, sk211, X211r, e211, E211, hSa211, hka211, hZ211, hown211, A211, C211, V211, K211v, la211, lb211, I211, L211, st211⟩ := ldcSVL (s := (s.setVm T205.vm)) (vm0 := T205.vm) (Ts := ["csv", ""]) X210 hx hZ205 hown205 (hw _ (List.mem_of_getElem? (i := 73) rfl)) hwsS e210 ((State.WarmedH.refl (s.setVm T205.vm)).since 0) (Nat.zero_le _) (show Fr s.heap.size _ by rw [hh, ← hn0]; exact N210) (fun b cl q => by show s.heap[b]? = some cl; rw [hh]; exact hkeepZ b cl q) I205 (by decide) hh34 hcw (vs := (cs1.map Value.int)) (z := (8 : Int32)) ⟨by decide, by rfl⟩ (by decide) (by rfl) (g := (mkF m 310 #[.val (.int p1), .val (.int p2), .val (.long q3), .second, .val (.long q4), .second, .val (.int p5), .val (.int p6), .val (.int (p1 &&& (3 : Int32))), .val (.int ((p2 &&& (2147483647 : Int32)) % (10 : Int32))), .val (.ref b1), .val (.ref u125), .val .null, .val .null, .unset, .unset, .unset, .unset] [(.ref u125)])) rfl (hb hby at_310) (n := 32) (by decide) (by decide) (by decide) (by decide)
        have hS211 : s.Since T211.vm h211.size := State.Since.trans hS205 ⟨hSa211.1, hSa211.2.mono hka211⟩ (Nat.le_trans (Nat.le_refl h205.size) E211.1)
        have X211 : Stand p l e room_1 (s.setVm T211.vm) m #[(.int p1), (.int p2), (.long q3), (.long q4), (.int p5), (.int p6)] below meth c T211 _ _ _ := X211r
        have L205_211 := Lit.stays (s := s) (vm0 := T205.vm) L205 hSa211.1
        have K211 : Keep h0 h211 [] := (K205).ext E211
        have f212 := (Exa.ext E211 f206)
        have f213 := (Fld.ext E211 f207)
        have f214 := (Fld.ext E211 f208)
        have f215 := (f209.ext E211)
        obtain ⟨cq216, kq216, q216a, q216b, q216c⟩ := isOf hZ211 e211 f212
        obtain ⟨_, _, ⟨T216, L216, k216, n216⟩, -, X216, ⟨Lc216, hQ216, l216, y216, z216⟩, st216⟩ := X211.virtualBack hx (y := (⟨"java/lang/String", "equals", "(Ljava/lang/Object;)Z"⟩ : MethodName)) (z := (⟨"java/lang/String", "equals", "(Ljava/lang/Object;)Z"⟩ : MethodName)) hown211 (mvT hZ211 (hw _ (List.mem_of_getElem? (i := 72) rfl))) (mvT hZ211 (hw _ (List.mem_of_getElem? (i := 60) rfl))) (notFace_of_selects (args := #[]) (mvT hZ211 (hw _ (List.mem_of_getElem? (i := 62) rfl)))) (mvT hZ211 (hw _ (List.mem_of_getElem? (i := 62) rfl))) (mvT hZ211 (hw _ (List.mem_of_getElem? (i := 61) rfl))) (by decide) (StrChars.Road.eqW (W := 0) hZ211 hwsE (kI := 4) (hw _ (List.mem_of_getElem? (i := 8) rfl)) f212 f213 f214 f215 cd125 bd125 ln125 A211 V211 C211 K211v own_cod1 own_b1 (by decide) (Sta.ext (own_keep_ext K211) S_C) hzc (by decide) (by decide)) q216a q216c (g := (mkF m 312 #[.val (.int p1), .val (.int p2), .val (.long q3), .second, .val (.long q4), .second, .val (.int p5), .val (.int p6), .val (.int (p1 &&& (3 : Int32))), .val (.int ((p2 &&& (2147483647 : Int32)) % (10 : Int32))), .val (.ref b1), .val (.ref u125), .val .null, .val .null, .unset, .unset, .unset, .unset] [(.ref sa211), (.ref u125)])) rfl (by rw [hml]; rfl) (Steps.refl _) (argsL := [(.ref sa211)]) (rest := []) (lenOf pd_rm0_2 rfl) rfl (by show 2 * 0 + _ ≤ _; exact Nat.le_of_eq rfl) (hb hby at_312) (fun _ _ => ⟨rfl, e211, (by decide : 10 + 0 ≤ _), (by decide : 85 + 0 ≤ _)⟩)
        dsimp only [Pt.U, Pt.locs, Pt.cells, Pt.slots] at X216 l216 y216 z216 st216 hQ216
        subst l216 y216 z216
        rcases hQ216 with ⟨⟨hv216, hd216⟩ | ⟨hv216, hd216⟩, hl216, e216⟩
        · exact absurd hd216 (fun q => hc163 q.symm)
        subst hv216 hl216
        have N216 := Fr.app N210 (Fr.nil n0)
        obtain ⟨T217, X217, e217, st217⟩ := getS2 X216 hx hZ211 hown211 (host := "") (Or.inl (hw _ (List.mem_of_getElem? (i := 74) rfl))) Via.refl e216 (Sta.ext (own_keep_ext K211) S_CSV) (g := (mkF m 323 #[.val (.int p1), .val (.int p2), .val (.long q3), .second, .val (.long q4), .second, .val (.int p5), .val (.int p6), .val (.int (p1 &&& (3 : Int32))), .val (.int ((p2 &&& (2147483647 : Int32)) % (10 : Int32))), .val (.ref b1), .val (.ref u125), .val .null, .val .null, .unset, .unset, .unset, .unset] [])) rfl (hb hby at_323)
        obtain ⟨cq218, kq218, q218a, q218b, q218c⟩ := isOf hZ211 e217 (Exa.ext (own_keep_ext K211) E_CSV)
        obtain ⟨_, _, ⟨T218, L218, k218, n218⟩, -, X218, ⟨Lc218, hQ218, l218, y218, z218⟩, st218⟩ := X217.virtualBack hx (y := (⟨"com/example/payspread/payspread/io/PaymentsFile$Format", "formatName", "()Ljava/lang/String;"⟩ : MethodName)) (z := (⟨"com/example/payspread/payspread/io/PaymentsFile$Format", "formatName", "()Ljava/lang/String;"⟩ : MethodName)) hown211 (mvT hZ211 (hw _ (List.mem_of_getElem? (i := 75) rfl))) (mvT hZ211 (hw _ (List.mem_of_getElem? (i := 76) rfl))) (notFace_of_selects (args := #[]) (mvT hZ211 (hw _ (List.mem_of_getElem? (i := 78) rfl)))) (mvT hZ211 (hw _ (List.mem_of_getElem? (i := 78) rfl))) (mvT hZ211 (hw _ (List.mem_of_getElem? (i := 77) rfl))) (by decide) (backOf (W := 0) (rmG l Z a0 hw [] w_CSV s0u h211 n0 (Nat.le_trans Z0 K211.1) (Fld.ext (own_keep_ext K211) s0F)) hZ211 (hw _ (List.mem_of_getElem? (i := 79) rfl)) (hw _ (List.mem_of_getElem? (i := 38) rfl)) (by decide) (by decide)) q218a q218c (g := (mkF m 326 #[.val (.int p1), .val (.int p2), .val (.long q3), .second, .val (.long q4), .second, .val (.int p5), .val (.int p6), .val (.int (p1 &&& (3 : Int32))), .val (.int ((p2 &&& (2147483647 : Int32)) % (10 : Int32))), .val (.ref b1), .val (.ref u125), .val .null, .val .null, .unset, .unset, .unset, .unset] [(.ref w_CSV)])) rfl (by rw [hml]; rfl) (Steps.refl _) (argsL := []) (rest := []) (lenOf pd_rm0_1 rfl) rfl (by show 2 * 0 + _ ≤ _; exact Nat.le_of_eq rfl) (hb hby at_326) (fun _ _ => ⟨rfl, e217, (by decide : 10 + 0 ≤ _), (by decide : 85 + 0 ≤ _)⟩)
        dsimp only [Pt.U, Pt.locs, Pt.cells, Pt.slots] at X218 l218 y218 z218 st218 hQ218
        subst l218 y218 z218
        obtain ⟨rfl, N218q, e218⟩ := hQ218
        have N218 := Fr.app N216 N218q
        obtain ⟨T219, X219, e219, st219⟩ := getS2 X218 hx hZ211 hown211 (host := "") (Or.inl (hw _ (List.mem_of_getElem? (i := 80) rfl))) Via.refl e218 (Sta.ext (own_keep_ext K211) S_CAMT_054) (g := (mkF m 331 #[.val (.int p1), .val (.int p2), .val (.long q3), .second, .val (.long q4), .second, .val (.int p5), .val (.int p6), .val (.int (p1 &&& (3 : Int32))), .val (.int ((p2 &&& (2147483647 : Int32)) % (10 : Int32))), .val (.ref b1), .val (.ref u125), .val .null, .val .null, .val (.ref s0u), .unset, .unset, .unset] [])) rfl (hb hby at_331)
        obtain ⟨cq220, kq220, q220a, q220b, q220c⟩ := isOf hZ211 e219 (Exa.ext (own_keep_ext K211) E_CAMT_054)
        obtain ⟨_, _, ⟨T220, L220, k220, n220⟩, -, X220, ⟨Lc220, hQ220, l220, y220, z220⟩, st220⟩ := X219.virtualBack hx (y := (⟨"com/example/payspread/payspread/io/PaymentsFile$Format", "formatName", "()Ljava/lang/String;"⟩ : MethodName)) (z := (⟨"com/example/payspread/payspread/io/PaymentsFile$Format", "formatName", "()Ljava/lang/String;"⟩ : MethodName)) hown211 (mvT hZ211 (hw _ (List.mem_of_getElem? (i := 75) rfl))) (mvT hZ211 (hw _ (List.mem_of_getElem? (i := 76) rfl))) (notFace_of_selects (args := #[]) (mvT hZ211 (hw _ (List.mem_of_getElem? (i := 78) rfl)))) (mvT hZ211 (hw _ (List.mem_of_getElem? (i := 78) rfl))) (mvT hZ211 (hw _ (List.mem_of_getElem? (i := 77) rfl))) (by decide) (backOf (W := 0) (rmG l Z a0 hw [] w_CAMT_054 s1u h211 n0 (Nat.le_trans Z0 K211.1) (Fld.ext (own_keep_ext K211) s1F)) hZ211 (hw _ (List.mem_of_getElem? (i := 79) rfl)) (hw _ (List.mem_of_getElem? (i := 38) rfl)) (by decide) (by decide)) q220a q220c (g := (mkF m 334 #[.val (.int p1), .val (.int p2), .val (.long q3), .second, .val (.long q4), .second, .val (.int p5), .val (.int p6), .val (.int (p1 &&& (3 : Int32))), .val (.int ((p2 &&& (2147483647 : Int32)) % (10 : Int32))), .val (.ref b1), .val (.ref u125), .val .null, .val .null, .val (.ref s0u), .unset, .unset, .unset] [(.ref w_CAMT_054)])) rfl (by rw [hml]; rfl) (Steps.refl _) (argsL := []) (rest := []) (lenOf pd_rm0_1 rfl) rfl (by show 2 * 0 + _ ≤ _; exact Nat.le_of_eq rfl) (hb hby at_334) (fun _ _ => ⟨rfl, e219, (by decide : 10 + 0 ≤ _), (by decide : 85 + 0 ≤ _)⟩)
        dsimp only [Pt.U, Pt.locs, Pt.cells, Pt.slots] at X220 l220 y220 z220 st220 hQ220
        subst l220 y220 z220
        obtain ⟨rfl, N220q, e220⟩ := hQ220
        have N220 := Fr.app N218 N220q
        have f221 := (Exa.ext E211 A205)
        have f222 := (Fld.ext E211 V205)
        have f223 := (Fld.ext E211 C205)
        have f224 := (K205v.ext E211)
        have f225 := (Exa.ext E211 (Exa.ext E205 (Exa.ext E204q (Exa.ext (own_keep_ext K125q) (Exa.ext (own_keep_ext K58) s0E)))))
        have f226 := (Fld.ext E211 (Fld.ext E205 (Fld.ext E204q (Fld.ext (own_keep_ext K125q) (Fld.ext (own_keep_ext K58) s0V)))))
        have f227 := (Fld.ext E211 (Fld.ext E205 (Fld.ext E204q (Fld.ext (own_keep_ext K125q) (Fld.ext (own_keep_ext K58) s0C)))))
        have f228 := (((((s0K.ext (own_keep_ext K58)).ext (own_keep_ext K125q)).ext E204q).ext E205).ext E211)
        obtain ⟨cq229, kq229, q229a, q229b, q229c⟩ := isOf hZ211 e220 f221
        obtain ⟨_, _, ⟨T229, L229, k229, n229⟩, -, X229, ⟨Lc229, hQ229, l229, y229, z229⟩, st229⟩ := X220.virtualBack hx (y := (⟨"java/lang/String", "equals", "(Ljava/lang/Object;)Z"⟩ : MethodName)) (z := (⟨"java/lang/String", "equals", "(Ljava/lang/Object;)Z"⟩ : MethodName)) hown211 (mvT hZ211 (hw _ (List.mem_of_getElem? (i := 72) rfl))) (mvT hZ211 (hw _ (List.mem_of_getElem? (i := 60) rfl))) (notFace_of_selects (args := #[]) (mvT hZ211 (hw _ (List.mem_of_getElem? (i := 62) rfl)))) (mvT hZ211 (hw _ (List.mem_of_getElem? (i := 62) rfl))) (mvT hZ211 (hw _ (List.mem_of_getElem? (i := 61) rfl))) (by decide) (StrChars.Road.eqW (W := 0) hZ211 hwsE (kI := 4) (hw _ (List.mem_of_getElem? (i := 8) rfl)) f221 f222 f223 f224 own_cod0 own_b0 (by decide) f225 f226 f227 f228 own_cod0 own_b0 (by decide) (Sta.ext (own_keep_ext K211) S_C) hzc (by decide) (by decide)) q229a q229c (g := (mkF m 343 #[.val (.int p1), .val (.int p2), .val (.long q3), .second, .val (.long q4), .second, .val (.int p5), .val (.int p6), .val (.int (p1 &&& (3 : Int32))), .val (.int ((p2 &&& (2147483647 : Int32)) % (10 : Int32))), .val (.ref b1), .val (.ref u125), .val .null, .val .null, .val (.ref s0u), .val (.ref s1u), .unset, .unset] [(.ref s0u), (.ref sa205)])) rfl (by rw [hml]; rfl) (Steps.refl _) (argsL := [(.ref s0u)]) (rest := []) (lenOf pd_rm0_2 rfl) rfl (by show 2 * 0 + _ ≤ _; exact Nat.le_of_eq rfl) (hb hby at_343) (fun _ _ => ⟨rfl, e220, (by decide : 10 + 0 ≤ _), (by decide : 85 + 0 ≤ _)⟩)
        dsimp only [Pt.U, Pt.locs, Pt.cells, Pt.slots] at X229 l229 y229 z229 st229 hQ229
        subst l229 y229 z229
        rcases hQ229 with ⟨⟨hv229, hd229⟩ | ⟨hv229, hd229⟩, hl229, e229⟩
        rotate_left
        · exact absurd rfl hd229
        subst hv229 hl229
        have N229 := Fr.app N220 (Fr.nil n0)
        have f230 := (Exa.ext E211 (Exa.ext E205 (Exa.ext E204q (Exa.ext (own_keep_ext K125q) (Exa.ext (own_keep_ext K58) s1E)))))
        have f231 := (Fld.ext E211 (Fld.ext E205 (Fld.ext E204q (Fld.ext (own_keep_ext K125q) (Fld.ext (own_keep_ext K58) s1V)))))
        have f232 := (Fld.ext E211 (Fld.ext E205 (Fld.ext E204q (Fld.ext (own_keep_ext K125q) (Fld.ext (own_keep_ext K58) s1C)))))
        have f233 := (((((s1K.ext (own_keep_ext K58)).ext (own_keep_ext K125q)).ext E204q).ext E205).ext E211)
        obtain ⟨cq234, kq234, q234a, q234b, q234c⟩ := isOf hZ211 e229 A211
        obtain ⟨_, _, ⟨T234, L234, k234, n234⟩, -, X234, ⟨Lc234, hQ234, l234, y234, z234⟩, st234⟩ := X229.virtualBack hx (y := (⟨"java/lang/String", "equals", "(Ljava/lang/Object;)Z"⟩ : MethodName)) (z := (⟨"java/lang/String", "equals", "(Ljava/lang/Object;)Z"⟩ : MethodName)) hown211 (mvT hZ211 (hw _ (List.mem_of_getElem? (i := 72) rfl))) (mvT hZ211 (hw _ (List.mem_of_getElem? (i := 60) rfl))) (notFace_of_selects (args := #[]) (mvT hZ211 (hw _ (List.mem_of_getElem? (i := 62) rfl)))) (mvT hZ211 (hw _ (List.mem_of_getElem? (i := 62) rfl))) (mvT hZ211 (hw _ (List.mem_of_getElem? (i := 61) rfl))) (by decide) (StrChars.Road.eqW (W := 0) hZ211 hwsE (kI := 4) (hw _ (List.mem_of_getElem? (i := 8) rfl)) A211 V211 C211 K211v own_cod1 own_b1 (by decide) f230 f231 f232 f233 own_cod1 own_b1 (by decide) (Sta.ext (own_keep_ext K211) S_C) hzc (by decide) (by decide)) q234a q234c (g := (mkF m 353 #[.val (.int p1), .val (.int p2), .val (.long q3), .second, .val (.long q4), .second, .val (.int p5), .val (.int p6), .val (.int (p1 &&& (3 : Int32))), .val (.int ((p2 &&& (2147483647 : Int32)) % (10 : Int32))), .val (.ref b1), .val (.ref u125), .val .null, .val .null, .val (.ref s0u), .val (.ref s1u), .unset, .unset] [(.ref s1u), (.ref sa211)])) rfl (by rw [hml]; rfl) (Steps.refl _) (argsL := [(.ref s1u)]) (rest := []) (lenOf pd_rm0_2 rfl) rfl (by show 2 * 0 + _ ≤ _; exact Nat.le_of_eq rfl) (hb hby at_353) (fun _ _ => ⟨rfl, e229, (by decide : 10 + 0 ≤ _), (by decide : 85 + 0 ≤ _)⟩)
        dsimp only [Pt.U, Pt.locs, Pt.cells, Pt.slots] at X234 l234 y234 z234 st234 hQ234
        subst l234 y234 z234
        rcases hQ234 with ⟨⟨hv234, hd234⟩ | ⟨hv234, hd234⟩, hl234, e234⟩
        rotate_left
        · exact absurd rfl hd234
        subst hv234 hl234
        have N234 := Fr.app N229 (Fr.nil n0)
        obtain ⟨_, _, ⟨T235, L235, k235, n235⟩, -, X235, ⟨Lc235, hQ235, l235, y235, z235⟩, st235⟩ := Jvm.LawKit.callS X234 hx (y := (⟨"com/example/payspread/payspread/io/PaymentsFile$Format", "named", "(Ljava/lang/String;)Lcom/example/payspread/payspread/io/PaymentsFile$Format;"⟩ : MethodName)) hown211 (mvT hZ211 (hw _ (List.mem_of_getElem? (i := 36) rfl))) (mvT hZ211 (hw _ (List.mem_of_getElem? (i := 37) rfl))) (mvT hZ211 (hw _ (List.mem_of_getElem? (i := 38) rfl))) (mvT hZ211 (hw _ (List.mem_of_getElem? (i := 39) rfl))) (by decide) (backOf (W := 0) (rmN l Z a0 hw [] s0u s0t s0k cs0 (3 : Int32) (cs0.map Value.int) (.ref w_CSV) wV kV w_CSV w_CAMT_054 s0u s0t s0k s1u s1t s1k zc h211 n0 (Nat.le_trans Z0 K211.1) f225 f226 f227 f228 own_cod0 own_b0 (by decide) (Or.inl ⟨rfl, rfl⟩) (Sta.ext (own_keep_ext K211) S_V) (V_V.ext (own_keep_ext K211)) (Exa.ext (own_keep_ext K211) E_V) (Fld.ext (own_keep_ext K211) s0F) (Exa.ext (own_keep_ext K211) s0E) (Fld.ext (own_keep_ext K211) s0V) (Fld.ext (own_keep_ext K211) s0C) (s0K.ext (own_keep_ext K211)) (Fld.ext (own_keep_ext K211) s1F) (Exa.ext (own_keep_ext K211) s1E) (Fld.ext (own_keep_ext K211) s1V) (Fld.ext (own_keep_ext K211) s1C) (s1K.ext (own_keep_ext K211)) (Sta.ext (own_keep_ext K211) S_C) hzc) hZ211 (hw _ (List.mem_of_getElem? (i := 39) rfl)) (hw _ (List.mem_of_getElem? (i := 38) rfl)) (by decide) (by decide)) (g := (mkF m 368 #[.val (.int p1), .val (.int p2), .val (.long q3), .second, .val (.long q4), .second, .val (.int p5), .val (.int p6), .val (.int (p1 &&& (3 : Int32))), .val (.int ((p2 &&& (2147483647 : Int32)) % (10 : Int32))), .val (.ref b1), .val (.ref u125), .val .null, .val .null, .val (.ref s0u), .val (.ref s1u), .val (.int (1 : Int32)), .unset] [(.ref s0u)])) rfl (by rw [hml]; rfl) (argsL := [(.ref s0u)]) (rest := []) (lenOf pd_rm0_0 rfl) rfl (by show 2 * 0 + _ ≤ _; exact Nat.le_of_eq rfl) (hb hby at_368) (fun _ _ => ⟨rfl, e234, (by decide : 10 + 1 ≤ _), (by decide : 85 + 2 ≤ _)⟩)
        dsimp only [Pt.U, Pt.locs, Pt.cells, Pt.slots] at X235 l235 y235 z235 st235 hQ235
        subst l235 y235 z235
        obtain ⟨rfl, N235q, E235q⟩ := hQ235
        have N235 := Fr.app N234 N235q
        have K235 : Keep h0 T235.heap [] := (K211).ext E235q
        obtain ⟨T236, X236, e236, st236⟩ := getS2 X235 hx hZ211 hown211 (host := "") (Or.inl (hw _ (List.mem_of_getElem? (i := 74) rfl))) Via.refl rfl (Sta.ext (own_keep_ext K235) S_CSV) (g := (mkF m 371 #[.val (.int p1), .val (.int p2), .val (.long q3), .second, .val (.long q4), .second, .val (.int p5), .val (.int p6), .val (.int (p1 &&& (3 : Int32))), .val (.int ((p2 &&& (2147483647 : Int32)) % (10 : Int32))), .val (.ref b1), .val (.ref u125), .val .null, .val .null, .val (.ref s0u), .val (.ref s1u), .val (.int (1 : Int32)), .unset] [(.ref w_CSV)])) rfl (hb hby at_371)
        have f237 := (Exa.ext E235q f230)
        have f238 := (Fld.ext E235q f231)
        have f239 := (Fld.ext E235q f232)
        have f240 := (f233.ext E235q)
        obtain ⟨_, _, ⟨T241, L241, k241, n241⟩, -, X241, ⟨Lc241, hQ241, l241, y241, z241⟩, st241⟩ := Jvm.LawKit.callS X236 hx (y := (⟨"com/example/payspread/payspread/io/PaymentsFile$Format", "named", "(Ljava/lang/String;)Lcom/example/payspread/payspread/io/PaymentsFile$Format;"⟩ : MethodName)) hown211 (mvT hZ211 (hw _ (List.mem_of_getElem? (i := 36) rfl))) (mvT hZ211 (hw _ (List.mem_of_getElem? (i := 37) rfl))) (mvT hZ211 (hw _ (List.mem_of_getElem? (i := 38) rfl))) (mvT hZ211 (hw _ (List.mem_of_getElem? (i := 39) rfl))) (by decide) (backOf (W := 0) (rmN l Z a0 hw [] s1u s1t s1k cs1 (8 : Int32) (cs1.map Value.int) (.ref w_CAMT_054) wV kV w_CSV w_CAMT_054 s0u s0t s0k s1u s1t s1k zc T235.heap n0 (Nat.le_trans Z0 K235.1) f237 f238 f239 f240 own_cod1 own_b1 (by decide) (Or.inr (Or.inl ⟨own_ne10, rfl, rfl⟩)) (Sta.ext (own_keep_ext K235) S_V) (V_V.ext (own_keep_ext K235)) (Exa.ext (own_keep_ext K235) E_V) (Fld.ext (own_keep_ext K235) s0F) (Exa.ext (own_keep_ext K235) s0E) (Fld.ext (own_keep_ext K235) s0V) (Fld.ext (own_keep_ext K235) s0C) (s0K.ext (own_keep_ext K235)) (Fld.ext (own_keep_ext K235) s1F) (Exa.ext (own_keep_ext K235) s1E) (Fld.ext (own_keep_ext K235) s1V) (Fld.ext (own_keep_ext K235) s1C) (s1K.ext (own_keep_ext K235)) (Sta.ext (own_keep_ext K235) S_C) hzc) hZ211 (hw _ (List.mem_of_getElem? (i := 39) rfl)) (hw _ (List.mem_of_getElem? (i := 38) rfl)) (by decide) (by decide)) (g := (mkF m 379 #[.val (.int p1), .val (.int p2), .val (.long q3), .second, .val (.long q4), .second, .val (.int p5), .val (.int p6), .val (.int (p1 &&& (3 : Int32))), .val (.int ((p2 &&& (2147483647 : Int32)) % (10 : Int32))), .val (.ref b1), .val (.ref u125), .val .null, .val .null, .val (.ref s0u), .val (.ref s1u), .val (.int (1 : Int32)), .unset] [(.ref s1u)])) rfl (by rw [hml]; rfl) (argsL := [(.ref s1u)]) (rest := []) (lenOf pd_rm0_0 rfl) rfl (by show 2 * 0 + _ ≤ _; exact Nat.le_of_eq rfl) (hb hby at_379) (fun _ _ => ⟨rfl, e236, (by decide : 11 + 1 ≤ _), (by decide : 87 + 2 ≤ _)⟩)
        dsimp only [Pt.U, Pt.locs, Pt.cells, Pt.slots] at X241 l241 y241 z241 st241 hQ241
        subst l241 y241 z241
        obtain ⟨rfl, N241q, E241q⟩ := hQ241
        have N241 := Fr.app N235 N241q
        have K241 : Keep h0 T241.heap [] := (K235).ext E241q
        obtain ⟨T242, X242, e242, st242⟩ := getS2 X241 hx hZ211 hown211 (host := "") (Or.inl (hw _ (List.mem_of_getElem? (i := 80) rfl))) Via.refl rfl (Sta.ext (own_keep_ext K241) S_CAMT_054) (g := (mkF m 382 #[.val (.int p1), .val (.int p2), .val (.long q3), .second, .val (.long q4), .second, .val (.int p5), .val (.int p6), .val (.int (p1 &&& (3 : Int32))), .val (.int ((p2 &&& (2147483647 : Int32)) % (10 : Int32))), .val (.ref b1), .val (.ref u125), .val .null, .val .null, .val (.ref s0u), .val (.ref s1u), .val (.int (1 : Int32)), .unset] [(.ref w_CAMT_054)])) rfl (hb hby at_382)
        obtain ⟨fs, hr, hrun, hended, hRW⟩ := Jvm.Stand.leaveW (s := s) (vm₁ := T211.vm) X242 hS211 (show _ ≤ T242.heap.size by rw [e242]; exact (Nat.le_trans (Nat.le_trans (Nat.le_refl h211.size) (E235q).1) (E241q).1)) (v := some (.int (1 : Int32))) (fun h => by rw [Bd.returns] at h; cases h)
        refine ⟨_, _, pre126 _ ?_, hrun, hended, _, _, rfl, ?_, hRW.1, hRW.2.1, hRW.2.2.1, hRW.2.2.2.mono (by decide) (by decide)⟩
        · show Steps p.tables e below (T125.setTop (mkF m 277 #[.val (.int p1), .val (.int p2), .val (.long q3), .second, .val (.long q4), .second, .val (.int p5), .val (.int p6), .val (.int (p1 &&& (3 : Int32))), .val (.int ((p2 &&& (2147483647 : Int32)) % (10 : Int32))), .val (.ref b1), .val (.ref u125), .unset, .unset, .unset, .unset, .unset, .unset] [(.ref u125)])) _
          refine st204 _ ?_
          show Steps p.tables e below (T204.setTop (mkF m 280 #[.val (.int p1), .val (.int p2), .val (.long q3), .second, .val (.long q4), .second, .val (.int p5), .val (.int p6), .val (.int (p1 &&& (3 : Int32))), .val (.int ((p2 &&& (2147483647 : Int32)) % (10 : Int32))), .val (.ref b1), .val (.ref u125), .unset, .unset, .unset, .unset, .unset, .unset] [.null])) _
          refine XS.astore X204.here hx rfl (hb hby at_280) rfl rfl (l' := #[.val (.int p1), .val (.int p2), .val (.long q3), .second, .val (.long q4), .second, .val (.int p5), .val (.int p6), .val (.int (p1 &&& (3 : Int32))), .val (.int ((p2 &&& (2147483647 : Int32)) % (10 : Int32))), .val (.ref b1), .val (.ref u125), .val .null, .unset, .unset, .unset, .unset, .unset]) rfl ?_
          show Steps p.tables e below (T204.setTop (mkF m 282 #[.val (.int p1), .val (.int p2), .val (.long q3), .second, .val (.long q4), .second, .val (.int p5), .val (.int p6), .val (.int (p1 &&& (3 : Int32))), .val (.int ((p2 &&& (2147483647 : Int32)) % (10 : Int32))), .val (.ref b1), .val (.ref u125), .val .null, .unset, .unset, .unset, .unset, .unset] [])) _
          refine XS.aconstNull X204.here hx rfl (hb hby at_282) ?_
          show Steps p.tables e below (T204.setTop (mkF m 283 #[.val (.int p1), .val (.int p2), .val (.long q3), .second, .val (.long q4), .second, .val (.int p5), .val (.int p6), .val (.int (p1 &&& (3 : Int32))), .val (.int ((p2 &&& (2147483647 : Int32)) % (10 : Int32))), .val (.ref b1), .val (.ref u125), .val .null, .unset, .unset, .unset, .unset, .unset] [.null])) _
          refine XS.astore X204.here hx rfl (hb hby at_283) rfl rfl (l' := #[.val (.int p1), .val (.int p2), .val (.long q3), .second, .val (.long q4), .second, .val (.int p5), .val (.int p6), .val (.int (p1 &&& (3 : Int32))), .val (.int ((p2 &&& (2147483647 : Int32)) % (10 : Int32))), .val (.ref b1), .val (.ref u125), .val .null, .val .null, .unset, .unset, .unset, .unset]) rfl ?_
          show Steps p.tables e below (T204.setTop (mkF m 285 #[.val (.int p1), .val (.int p2), .val (.long q3), .second, .val (.long q4), .second, .val (.int p5), .val (.int p6), .val (.int (p1 &&& (3 : Int32))), .val (.int ((p2 &&& (2147483647 : Int32)) % (10 : Int32))), .val (.ref b1), .val (.ref u125), .val .null, .val .null, .unset, .unset, .unset, .unset] [])) _
          refine XS.aload X204.here hx rfl (hb hby at_285) rfl rfl ?_
          show Steps p.tables e below (T204.setTop (mkF m 287 #[.val (.int p1), .val (.int p2), .val (.long q3), .second, .val (.long q4), .second, .val (.int p5), .val (.int p6), .val (.int (p1 &&& (3 : Int32))), .val (.int ((p2 &&& (2147483647 : Int32)) % (10 : Int32))), .val (.ref b1), .val (.ref u125), .val .null, .val .null, .unset, .unset, .unset, .unset] [(.ref u125)])) _
          refine XS.ifnullNo X204.here hx rfl (hb hby at_287) rfl ?_
          show Steps p.tables e below (T204.setTop (mkF m 290 #[.val (.int p1), .val (.int p2), .val (.long q3), .second, .val (.long q4), .second, .val (.int p5), .val (.int p6), .val (.int (p1 &&& (3 : Int32))), .val (.int ((p2 &&& (2147483647 : Int32)) % (10 : Int32))), .val (.ref b1), .val (.ref u125), .val .null, .val .null, .unset, .unset, .unset, .unset] [])) _
          refine XS.aload X204.here hx rfl (hb hby at_290) rfl rfl ?_
          show Steps p.tables e below (T204.setTop (mkF m 292 #[.val (.int p1), .val (.int p2), .val (.long q3), .second, .val (.long q4), .second, .val (.int p5), .val (.int p6), .val (.int (p1 &&& (3 : Int32))), .val (.int ((p2 &&& (2147483647 : Int32)) % (10 : Int32))), .val (.ref b1), .val (.ref u125), .val .null, .val .null, .unset, .unset, .unset, .unset] [(.ref u125)])) _
          refine st205 _ ?_
          show Steps p.tables e below (T205.setTop (mkF m 294 #[.val (.int p1), .val (.int p2), .val (.long q3), .second, .val (.long q4), .second, .val (.int p5), .val (.int p6), .val (.int (p1 &&& (3 : Int32))), .val (.int ((p2 &&& (2147483647 : Int32)) % (10 : Int32))), .val (.ref b1), .val (.ref u125), .val .null, .val .null, .unset, .unset, .unset, .unset] [(.ref sa205), (.ref u125)])) _
          refine st210.trans ?_
          show Steps p.tables e below (T210.setTop (mkF m 297 #[.val (.int p1), .val (.int p2), .val (.long q3), .second, .val (.long q4), .second, .val (.int p5), .val (.int p6), .val (.int (p1 &&& (3 : Int32))), .val (.int ((p2 &&& (2147483647 : Int32)) % (10 : Int32))), .val (.ref b1), .val (.ref u125), .val .null, .val .null, .unset, .unset, .unset, .unset] [(.int (0 : Int32))])) _
          refine XS.ifYes X210.here hx rfl (pc0 := 297) (pc' := 308) rfl (hb hby at_297) rfl ((if0 _ _).trans (teq (rfl : (0 : Int32) = (0 : Int32))).1) (by decide) (by decide) ?_
          show Steps p.tables e below (T210.setTop (mkF m 308 #[.val (.int p1), .val (.int p2), .val (.long q3), .second, .val (.long q4), .second, .val (.int p5), .val (.int p6), .val (.int (p1 &&& (3 : Int32))), .val (.int ((p2 &&& (2147483647 : Int32)) % (10 : Int32))), .val (.ref b1), .val (.ref u125), .val .null, .val .null, .unset, .unset, .unset, .unset] [])) _
          refine XS.aload X210.here hx rfl (hb hby at_308) rfl rfl ?_
          show Steps p.tables e below (T210.setTop (mkF m 310 #[.val (.int p1), .val (.int p2), .val (.long q3), .second, .val (.long q4), .second, .val (.int p5), .val (.int p6), .val (.int (p1 &&& (3 : Int32))), .val (.int ((p2 &&& (2147483647 : Int32)) % (10 : Int32))), .val (.ref b1), .val (.ref u125), .val .null, .val .null, .unset, .unset, .unset, .unset] [(.ref u125)])) _
          refine st211 _ ?_
          show Steps p.tables e below (T211.setTop (mkF m 312 #[.val (.int p1), .val (.int p2), .val (.long q3), .second, .val (.long q4), .second, .val (.int p5), .val (.int p6), .val (.int (p1 &&& (3 : Int32))), .val (.int ((p2 &&& (2147483647 : Int32)) % (10 : Int32))), .val (.ref b1), .val (.ref u125), .val .null, .val .null, .unset, .unset, .unset, .unset] [(.ref sa211), (.ref u125)])) _
          refine st216.trans ?_
          show Steps p.tables e below (T216.setTop (mkF m 315 #[.val (.int p1), .val (.int p2), .val (.long q3), .second, .val (.long q4), .second, .val (.int p5), .val (.int p6), .val (.int (p1 &&& (3 : Int32))), .val (.int ((p2 &&& (2147483647 : Int32)) % (10 : Int32))), .val (.ref b1), .val (.ref u125), .val .null, .val .null, .unset, .unset, .unset, .unset] [(.int (0 : Int32))])) _
          refine XS.ifYes X216.here hx rfl (pc0 := 315) (pc' := 323) rfl (hb hby at_315) rfl ((if0 _ _).trans (teq (rfl : (0 : Int32) = (0 : Int32))).1) (by decide) (by decide) ?_
          show Steps p.tables e below (T216.setTop (mkF m 323 #[.val (.int p1), .val (.int p2), .val (.long q3), .second, .val (.long q4), .second, .val (.int p5), .val (.int p6), .val (.int (p1 &&& (3 : Int32))), .val (.int ((p2 &&& (2147483647 : Int32)) % (10 : Int32))), .val (.ref b1), .val (.ref u125), .val .null, .val .null, .unset, .unset, .unset, .unset] [])) _
          refine st217 _ ?_
          show Steps p.tables e below (T217.setTop (mkF m 326 #[.val (.int p1), .val (.int p2), .val (.long q3), .second, .val (.long q4), .second, .val (.int p5), .val (.int p6), .val (.int (p1 &&& (3 : Int32))), .val (.int ((p2 &&& (2147483647 : Int32)) % (10 : Int32))), .val (.ref b1), .val (.ref u125), .val .null, .val .null, .unset, .unset, .unset, .unset] [(.ref w_CSV)])) _
          refine st218.trans ?_
          show Steps p.tables e below (T218.setTop (mkF m 329 #[.val (.int p1), .val (.int p2), .val (.long q3), .second, .val (.long q4), .second, .val (.int p5), .val (.int p6), .val (.int (p1 &&& (3 : Int32))), .val (.int ((p2 &&& (2147483647 : Int32)) % (10 : Int32))), .val (.ref b1), .val (.ref u125), .val .null, .val .null, .unset, .unset, .unset, .unset] [(.ref s0u)])) _
          refine XS.astore X218.here hx rfl (hb hby at_329) rfl rfl (l' := #[.val (.int p1), .val (.int p2), .val (.long q3), .second, .val (.long q4), .second, .val (.int p5), .val (.int p6), .val (.int (p1 &&& (3 : Int32))), .val (.int ((p2 &&& (2147483647 : Int32)) % (10 : Int32))), .val (.ref b1), .val (.ref u125), .val .null, .val .null, .val (.ref s0u), .unset, .unset, .unset]) rfl ?_
          show Steps p.tables e below (T218.setTop (mkF m 331 #[.val (.int p1), .val (.int p2), .val (.long q3), .second, .val (.long q4), .second, .val (.int p5), .val (.int p6), .val (.int (p1 &&& (3 : Int32))), .val (.int ((p2 &&& (2147483647 : Int32)) % (10 : Int32))), .val (.ref b1), .val (.ref u125), .val .null, .val .null, .val (.ref s0u), .unset, .unset, .unset] [])) _
          refine st219 _ ?_
          show Steps p.tables e below (T219.setTop (mkF m 334 #[.val (.int p1), .val (.int p2), .val (.long q3), .second, .val (.long q4), .second, .val (.int p5), .val (.int p6), .val (.int (p1 &&& (3 : Int32))), .val (.int ((p2 &&& (2147483647 : Int32)) % (10 : Int32))), .val (.ref b1), .val (.ref u125), .val .null, .val .null, .val (.ref s0u), .unset, .unset, .unset] [(.ref w_CAMT_054)])) _
          refine st220.trans ?_
          show Steps p.tables e below (T220.setTop (mkF m 337 #[.val (.int p1), .val (.int p2), .val (.long q3), .second, .val (.long q4), .second, .val (.int p5), .val (.int p6), .val (.int (p1 &&& (3 : Int32))), .val (.int ((p2 &&& (2147483647 : Int32)) % (10 : Int32))), .val (.ref b1), .val (.ref u125), .val .null, .val .null, .val (.ref s0u), .unset, .unset, .unset] [(.ref s1u)])) _
          refine XS.astore X220.here hx rfl (hb hby at_337) rfl rfl (l' := #[.val (.int p1), .val (.int p2), .val (.long q3), .second, .val (.long q4), .second, .val (.int p5), .val (.int p6), .val (.int (p1 &&& (3 : Int32))), .val (.int ((p2 &&& (2147483647 : Int32)) % (10 : Int32))), .val (.ref b1), .val (.ref u125), .val .null, .val .null, .val (.ref s0u), .val (.ref s1u), .unset, .unset]) rfl ?_
          show Steps p.tables e below (T220.setTop (mkF m 339 #[.val (.int p1), .val (.int p2), .val (.long q3), .second, .val (.long q4), .second, .val (.int p5), .val (.int p6), .val (.int (p1 &&& (3 : Int32))), .val (.int ((p2 &&& (2147483647 : Int32)) % (10 : Int32))), .val (.ref b1), .val (.ref u125), .val .null, .val .null, .val (.ref s0u), .val (.ref s1u), .unset, .unset] [])) _
          refine ldcAgain (s := s) (vm0 := T211.vm) X220 hx hZ211 hown211 (hw _ (List.mem_of_getElem? (i := 69) rfl)) L205_211 (g := (mkF m 339 #[.val (.int p1), .val (.int p2), .val (.long q3), .second, .val (.long q4), .second, .val (.int p5), .val (.int p6), .val (.int (p1 &&& (3 : Int32))), .val (.int ((p2 &&& (2147483647 : Int32)) % (10 : Int32))), .val (.ref b1), .val (.ref u125), .val .null, .val .null, .val (.ref s0u), .val (.ref s1u), .unset, .unset] [])) rfl (hb hby at_339) _ ?_
          show Steps p.tables e below (T220.setTop (mkF m 341 #[.val (.int p1), .val (.int p2), .val (.long q3), .second, .val (.long q4), .second, .val (.int p5), .val (.int p6), .val (.int (p1 &&& (3 : Int32))), .val (.int ((p2 &&& (2147483647 : Int32)) % (10 : Int32))), .val (.ref b1), .val (.ref u125), .val .null, .val .null, .val (.ref s0u), .val (.ref s1u), .unset, .unset] [(.ref sa205)])) _
          refine XS.aload X220.here hx rfl (hb hby at_341) rfl rfl ?_
          show Steps p.tables e below (T220.setTop (mkF m 343 #[.val (.int p1), .val (.int p2), .val (.long q3), .second, .val (.long q4), .second, .val (.int p5), .val (.int p6), .val (.int (p1 &&& (3 : Int32))), .val (.int ((p2 &&& (2147483647 : Int32)) % (10 : Int32))), .val (.ref b1), .val (.ref u125), .val .null, .val .null, .val (.ref s0u), .val (.ref s1u), .unset, .unset] [(.ref s0u), (.ref sa205)])) _
          refine st229.trans ?_
          show Steps p.tables e below (T229.setTop (mkF m 346 #[.val (.int p1), .val (.int p2), .val (.long q3), .second, .val (.long q4), .second, .val (.int p5), .val (.int p6), .val (.int (p1 &&& (3 : Int32))), .val (.int ((p2 &&& (2147483647 : Int32)) % (10 : Int32))), .val (.ref b1), .val (.ref u125), .val .null, .val .null, .val (.ref s0u), .val (.ref s1u), .unset, .unset] [(.int (1 : Int32))])) _
          refine XS.ifNo X229.here hx rfl (hb hby at_346) rfl ((if0 _ _).trans (feq (by decide : ¬ ((1 : Int32) = (0 : Int32)))).1) ?_
          show Steps p.tables e below (T229.setTop (mkF m 349 #[.val (.int p1), .val (.int p2), .val (.long q3), .second, .val (.long q4), .second, .val (.int p5), .val (.int p6), .val (.int (p1 &&& (3 : Int32))), .val (.int ((p2 &&& (2147483647 : Int32)) % (10 : Int32))), .val (.ref b1), .val (.ref u125), .val .null, .val .null, .val (.ref s0u), .val (.ref s1u), .unset, .unset] [])) _
          refine ldcAgain (s := s) (vm0 := T211.vm) X229 hx hZ211 hown211 (hw _ (List.mem_of_getElem? (i := 73) rfl)) L211 (g := (mkF m 349 #[.val (.int p1), .val (.int p2), .val (.long q3), .second, .val (.long q4), .second, .val (.int p5), .val (.int p6), .val (.int (p1 &&& (3 : Int32))), .val (.int ((p2 &&& (2147483647 : Int32)) % (10 : Int32))), .val (.ref b1), .val (.ref u125), .val .null, .val .null, .val (.ref s0u), .val (.ref s1u), .unset, .unset] [])) rfl (hb hby at_349) _ ?_
          show Steps p.tables e below (T229.setTop (mkF m 351 #[.val (.int p1), .val (.int p2), .val (.long q3), .second, .val (.long q4), .second, .val (.int p5), .val (.int p6), .val (.int (p1 &&& (3 : Int32))), .val (.int ((p2 &&& (2147483647 : Int32)) % (10 : Int32))), .val (.ref b1), .val (.ref u125), .val .null, .val .null, .val (.ref s0u), .val (.ref s1u), .unset, .unset] [(.ref sa211)])) _
          refine XS.aload X229.here hx rfl (hb hby at_351) rfl rfl ?_
          show Steps p.tables e below (T229.setTop (mkF m 353 #[.val (.int p1), .val (.int p2), .val (.long q3), .second, .val (.long q4), .second, .val (.int p5), .val (.int p6), .val (.int (p1 &&& (3 : Int32))), .val (.int ((p2 &&& (2147483647 : Int32)) % (10 : Int32))), .val (.ref b1), .val (.ref u125), .val .null, .val .null, .val (.ref s0u), .val (.ref s1u), .unset, .unset] [(.ref s1u), (.ref sa211)])) _
          refine st234.trans ?_
          show Steps p.tables e below (T234.setTop (mkF m 356 #[.val (.int p1), .val (.int p2), .val (.long q3), .second, .val (.long q4), .second, .val (.int p5), .val (.int p6), .val (.int (p1 &&& (3 : Int32))), .val (.int ((p2 &&& (2147483647 : Int32)) % (10 : Int32))), .val (.ref b1), .val (.ref u125), .val .null, .val .null, .val (.ref s0u), .val (.ref s1u), .unset, .unset] [(.int (1 : Int32))])) _
          refine XS.ifNo X234.here hx rfl (hb hby at_356) rfl ((if0 _ _).trans (feq (by decide : ¬ ((1 : Int32) = (0 : Int32)))).1) ?_
          show Steps p.tables e below (T234.setTop (mkF m 359 #[.val (.int p1), .val (.int p2), .val (.long q3), .second, .val (.long q4), .second, .val (.int p5), .val (.int p6), .val (.int (p1 &&& (3 : Int32))), .val (.int ((p2 &&& (2147483647 : Int32)) % (10 : Int32))), .val (.ref b1), .val (.ref u125), .val .null, .val .null, .val (.ref s0u), .val (.ref s1u), .unset, .unset] [])) _
          refine XS.iconst X234.here hx rfl (hb hby at_359) ?_
          show Steps p.tables e below (T234.setTop (mkF m 360 #[.val (.int p1), .val (.int p2), .val (.long q3), .second, .val (.long q4), .second, .val (.int p5), .val (.int p6), .val (.int (p1 &&& (3 : Int32))), .val (.int ((p2 &&& (2147483647 : Int32)) % (10 : Int32))), .val (.ref b1), .val (.ref u125), .val .null, .val .null, .val (.ref s0u), .val (.ref s1u), .unset, .unset] [(.int (1 : Int32))])) _
          refine XS.goto X234.here hx rfl (pc0 := 360) (pc' := 364) rfl (hb hby at_360) (by decide) (by decide) ?_
          show Steps p.tables e below (T234.setTop (mkF m 364 #[.val (.int p1), .val (.int p2), .val (.long q3), .second, .val (.long q4), .second, .val (.int p5), .val (.int p6), .val (.int (p1 &&& (3 : Int32))), .val (.int ((p2 &&& (2147483647 : Int32)) % (10 : Int32))), .val (.ref b1), .val (.ref u125), .val .null, .val .null, .val (.ref s0u), .val (.ref s1u), .unset, .unset] [(.int (1 : Int32))])) _
          refine XS.istore X234.here hx rfl (hb hby at_364) rfl (l' := #[.val (.int p1), .val (.int p2), .val (.long q3), .second, .val (.long q4), .second, .val (.int p5), .val (.int p6), .val (.int (p1 &&& (3 : Int32))), .val (.int ((p2 &&& (2147483647 : Int32)) % (10 : Int32))), .val (.ref b1), .val (.ref u125), .val .null, .val .null, .val (.ref s0u), .val (.ref s1u), .val (.int (1 : Int32)), .unset]) rfl ?_
          show Steps p.tables e below (T234.setTop (mkF m 366 #[.val (.int p1), .val (.int p2), .val (.long q3), .second, .val (.long q4), .second, .val (.int p5), .val (.int p6), .val (.int (p1 &&& (3 : Int32))), .val (.int ((p2 &&& (2147483647 : Int32)) % (10 : Int32))), .val (.ref b1), .val (.ref u125), .val .null, .val .null, .val (.ref s0u), .val (.ref s1u), .val (.int (1 : Int32)), .unset] [])) _
          refine XS.aload X234.here hx rfl (hb hby at_366) rfl rfl ?_
          show Steps p.tables e below (T234.setTop (mkF m 368 #[.val (.int p1), .val (.int p2), .val (.long q3), .second, .val (.long q4), .second, .val (.int p5), .val (.int p6), .val (.int (p1 &&& (3 : Int32))), .val (.int ((p2 &&& (2147483647 : Int32)) % (10 : Int32))), .val (.ref b1), .val (.ref u125), .val .null, .val .null, .val (.ref s0u), .val (.ref s1u), .val (.int (1 : Int32)), .unset] [(.ref s0u)])) _
          refine st235 _ ?_
          show Steps p.tables e below (T235.setTop (mkF m 371 #[.val (.int p1), .val (.int p2), .val (.long q3), .second, .val (.long q4), .second, .val (.int p5), .val (.int p6), .val (.int (p1 &&& (3 : Int32))), .val (.int ((p2 &&& (2147483647 : Int32)) % (10 : Int32))), .val (.ref b1), .val (.ref u125), .val .null, .val .null, .val (.ref s0u), .val (.ref s1u), .val (.int (1 : Int32)), .unset] [(.ref w_CSV)])) _
          refine st236 _ ?_
          show Steps p.tables e below (T236.setTop (mkF m 374 #[.val (.int p1), .val (.int p2), .val (.long q3), .second, .val (.long q4), .second, .val (.int p5), .val (.int p6), .val (.int (p1 &&& (3 : Int32))), .val (.int ((p2 &&& (2147483647 : Int32)) % (10 : Int32))), .val (.ref b1), .val (.ref u125), .val .null, .val .null, .val (.ref s0u), .val (.ref s1u), .val (.int (1 : Int32)), .unset] [(.ref w_CSV), (.ref w_CSV)])) _
          refine Jvm.RoadKit.acmp (g := (mkF m 374 #[.val (.int p1), .val (.int p2), .val (.long q3), .second, .val (.long q4), .second, .val (.int p5), .val (.int p6), .val (.int (p1 &&& (3 : Int32))), .val (.int ((p2 &&& (2147483647 : Int32)) % (10 : Int32))), .val (.ref b1), .val (.ref u125), .val .null, .val .null, .val (.ref s0u), .val (.ref s1u), .val (.int (1 : Int32)), .unset] [(.ref w_CSV), (.ref w_CSV)])) X236 hx rfl rfl rfl (pc0 := 374) (pc' := 377) (same := true) rfl (hb hby at_374) rfl (decide_eq_true rfl) (by decide) (by decide) ?_
          show Steps p.tables e below (T236.setTop (mkF m 377 #[.val (.int p1), .val (.int p2), .val (.long q3), .second, .val (.long q4), .second, .val (.int p5), .val (.int p6), .val (.int (p1 &&& (3 : Int32))), .val (.int ((p2 &&& (2147483647 : Int32)) % (10 : Int32))), .val (.ref b1), .val (.ref u125), .val .null, .val .null, .val (.ref s0u), .val (.ref s1u), .val (.int (1 : Int32)), .unset] [])) _
          refine XS.aload X236.here hx rfl (hb hby at_377) rfl rfl ?_
          show Steps p.tables e below (T236.setTop (mkF m 379 #[.val (.int p1), .val (.int p2), .val (.long q3), .second, .val (.long q4), .second, .val (.int p5), .val (.int p6), .val (.int (p1 &&& (3 : Int32))), .val (.int ((p2 &&& (2147483647 : Int32)) % (10 : Int32))), .val (.ref b1), .val (.ref u125), .val .null, .val .null, .val (.ref s0u), .val (.ref s1u), .val (.int (1 : Int32)), .unset] [(.ref s1u)])) _
          refine st241 _ ?_
          show Steps p.tables e below (T241.setTop (mkF m 382 #[.val (.int p1), .val (.int p2), .val (.long q3), .second, .val (.long q4), .second, .val (.int p5), .val (.int p6), .val (.int (p1 &&& (3 : Int32))), .val (.int ((p2 &&& (2147483647 : Int32)) % (10 : Int32))), .val (.ref b1), .val (.ref u125), .val .null, .val .null, .val (.ref s0u), .val (.ref s1u), .val (.int (1 : Int32)), .unset] [(.ref w_CAMT_054)])) _
          refine st242 _ ?_
          show Steps p.tables e below (T242.setTop (mkF m 385 #[.val (.int p1), .val (.int p2), .val (.long q3), .second, .val (.long q4), .second, .val (.int p5), .val (.int p6), .val (.int (p1 &&& (3 : Int32))), .val (.int ((p2 &&& (2147483647 : Int32)) % (10 : Int32))), .val (.ref b1), .val (.ref u125), .val .null, .val .null, .val (.ref s0u), .val (.ref s1u), .val (.int (1 : Int32)), .unset] [(.ref w_CAMT_054), (.ref w_CAMT_054)])) _
          refine Jvm.RoadKit.acmp (g := (mkF m 385 #[.val (.int p1), .val (.int p2), .val (.long q3), .second, .val (.long q4), .second, .val (.int p5), .val (.int p6), .val (.int (p1 &&& (3 : Int32))), .val (.int ((p2 &&& (2147483647 : Int32)) % (10 : Int32))), .val (.ref b1), .val (.ref u125), .val .null, .val .null, .val (.ref s0u), .val (.ref s1u), .val (.int (1 : Int32)), .unset] [(.ref w_CAMT_054), (.ref w_CAMT_054)])) X242 hx rfl rfl rfl (pc0 := 385) (pc' := 388) (same := true) rfl (hb hby at_385) rfl (decide_eq_true rfl) (by decide) (by decide) ?_
          show Steps p.tables e below (T242.setTop (mkF m 388 #[.val (.int p1), .val (.int p2), .val (.long q3), .second, .val (.long q4), .second, .val (.int p5), .val (.int p6), .val (.int (p1 &&& (3 : Int32))), .val (.int ((p2 &&& (2147483647 : Int32)) % (10 : Int32))), .val (.ref b1), .val (.ref u125), .val .null, .val .null, .val (.ref s0u), .val (.ref s1u), .val (.int (1 : Int32)), .unset] [])) _
          refine XS.iconst X242.here hx rfl (hb hby at_388) ?_
          show Steps p.tables e below (T242.setTop (mkF m 389 #[.val (.int p1), .val (.int p2), .val (.long q3), .second, .val (.long q4), .second, .val (.int p5), .val (.int p6), .val (.int (p1 &&& (3 : Int32))), .val (.int ((p2 &&& (2147483647 : Int32)) % (10 : Int32))), .val (.ref b1), .val (.ref u125), .val .null, .val .null, .val (.ref s0u), .val (.ref s1u), .val (.int (1 : Int32)), .unset] [(.int (1 : Int32))])) _
          refine XS.goto X242.here hx rfl (pc0 := 389) (pc' := 393) rfl (hb hby at_389) (by decide) (by decide) ?_
          show Steps p.tables e below (T242.setTop (mkF m 393 #[.val (.int p1), .val (.int p2), .val (.long q3), .second, .val (.long q4), .second, .val (.int p5), .val (.int p6), .val (.int (p1 &&& (3 : Int32))), .val (.int ((p2 &&& (2147483647 : Int32)) % (10 : Int32))), .val (.ref b1), .val (.ref u125), .val .null, .val .null, .val (.ref s0u), .val (.ref s1u), .val (.int (1 : Int32)), .unset] [(.int (1 : Int32))])) _
          refine XS.istore X242.here hx rfl (hb hby at_393) rfl (l' := #[.val (.int p1), .val (.int p2), .val (.long q3), .second, .val (.long q4), .second, .val (.int p5), .val (.int p6), .val (.int (p1 &&& (3 : Int32))), .val (.int ((p2 &&& (2147483647 : Int32)) % (10 : Int32))), .val (.ref b1), .val (.ref u125), .val .null, .val .null, .val (.ref s0u), .val (.ref s1u), .val (.int (1 : Int32)), .val (.int (1 : Int32))]) rfl ?_
          show Steps p.tables e below (T242.setTop (mkF m 395 #[.val (.int p1), .val (.int p2), .val (.long q3), .second, .val (.long q4), .second, .val (.int p5), .val (.int p6), .val (.int (p1 &&& (3 : Int32))), .val (.int ((p2 &&& (2147483647 : Int32)) % (10 : Int32))), .val (.ref b1), .val (.ref u125), .val .null, .val .null, .val (.ref s0u), .val (.ref s1u), .val (.int (1 : Int32)), .val (.int (1 : Int32))] [])) _
          refine XS.aload X242.here hx rfl (hb hby at_395) rfl rfl ?_
          show Steps p.tables e below (T242.setTop (mkF m 397 #[.val (.int p1), .val (.int p2), .val (.long q3), .second, .val (.long q4), .second, .val (.int p5), .val (.int p6), .val (.int (p1 &&& (3 : Int32))), .val (.int ((p2 &&& (2147483647 : Int32)) % (10 : Int32))), .val (.ref b1), .val (.ref u125), .val .null, .val .null, .val (.ref s0u), .val (.ref s1u), .val (.int (1 : Int32)), .val (.int (1 : Int32))] [.null])) _
          refine XS.aload X242.here hx rfl (hb hby at_397) rfl rfl ?_
          show Steps p.tables e below (T242.setTop (mkF m 399 #[.val (.int p1), .val (.int p2), .val (.long q3), .second, .val (.long q4), .second, .val (.int p5), .val (.int p6), .val (.int (p1 &&& (3 : Int32))), .val (.int ((p2 &&& (2147483647 : Int32)) % (10 : Int32))), .val (.ref b1), .val (.ref u125), .val .null, .val .null, .val (.ref s0u), .val (.ref s1u), .val (.int (1 : Int32)), .val (.int (1 : Int32))] [.null, .null])) _
          refine Jvm.RoadKit.acmp (g := (mkF m 399 #[.val (.int p1), .val (.int p2), .val (.long q3), .second, .val (.long q4), .second, .val (.int p5), .val (.int p6), .val (.int (p1 &&& (3 : Int32))), .val (.int ((p2 &&& (2147483647 : Int32)) % (10 : Int32))), .val (.ref b1), .val (.ref u125), .val .null, .val .null, .val (.ref s0u), .val (.ref s1u), .val (.int (1 : Int32)), .val (.int (1 : Int32))] [.null, .null])) X242 hx rfl rfl rfl (pc0 := 399) (pc' := 402) (same := true) rfl (hb hby at_399) rfl (decide_eq_true rfl) (by decide) (by decide) ?_
          show Steps p.tables e below (T242.setTop (mkF m 402 #[.val (.int p1), .val (.int p2), .val (.long q3), .second, .val (.long q4), .second, .val (.int p5), .val (.int p6), .val (.int (p1 &&& (3 : Int32))), .val (.int ((p2 &&& (2147483647 : Int32)) % (10 : Int32))), .val (.ref b1), .val (.ref u125), .val .null, .val .null, .val (.ref s0u), .val (.ref s1u), .val (.int (1 : Int32)), .val (.int (1 : Int32))] [])) _
          refine XS.iload X242.here hx rfl (hb hby at_402) rfl ?_
          show Steps p.tables e below (T242.setTop (mkF m 404 #[.val (.int p1), .val (.int p2), .val (.long q3), .second, .val (.long q4), .second, .val (.int p5), .val (.int p6), .val (.int (p1 &&& (3 : Int32))), .val (.int ((p2 &&& (2147483647 : Int32)) % (10 : Int32))), .val (.ref b1), .val (.ref u125), .val .null, .val .null, .val (.ref s0u), .val (.ref s1u), .val (.int (1 : Int32)), .val (.int (1 : Int32))] [(.int (1 : Int32))])) _
          refine XS.ifNo X242.here hx rfl (hb hby at_404) rfl ((if0 _ _).trans (feq (by decide : ¬ ((1 : Int32) = (0 : Int32)))).1) ?_
          show Steps p.tables e below (T242.setTop (mkF m 407 #[.val (.int p1), .val (.int p2), .val (.long q3), .second, .val (.long q4), .second, .val (.int p5), .val (.int p6), .val (.int (p1 &&& (3 : Int32))), .val (.int ((p2 &&& (2147483647 : Int32)) % (10 : Int32))), .val (.ref b1), .val (.ref u125), .val .null, .val .null, .val (.ref s0u), .val (.ref s1u), .val (.int (1 : Int32)), .val (.int (1 : Int32))] [])) _
          refine XS.iload X242.here hx rfl (hb hby at_407) rfl ?_
          show Steps p.tables e below (T242.setTop (mkF m 409 #[.val (.int p1), .val (.int p2), .val (.long q3), .second, .val (.long q4), .second, .val (.int p5), .val (.int p6), .val (.int (p1 &&& (3 : Int32))), .val (.int ((p2 &&& (2147483647 : Int32)) % (10 : Int32))), .val (.ref b1), .val (.ref u125), .val .null, .val .null, .val (.ref s0u), .val (.ref s1u), .val (.int (1 : Int32)), .val (.int (1 : Int32))] [(.int (1 : Int32))])) _
          refine XS.ifNo X242.here hx rfl (hb hby at_409) rfl ((if0 _ _).trans (feq (by decide : ¬ ((1 : Int32) = (0 : Int32)))).1) ?_
          show Steps p.tables e below (T242.setTop (mkF m 412 #[.val (.int p1), .val (.int p2), .val (.long q3), .second, .val (.long q4), .second, .val (.int p5), .val (.int p6), .val (.int (p1 &&& (3 : Int32))), .val (.int ((p2 &&& (2147483647 : Int32)) % (10 : Int32))), .val (.ref b1), .val (.ref u125), .val .null, .val .null, .val (.ref s0u), .val (.ref s1u), .val (.int (1 : Int32)), .val (.int (1 : Int32))] [])) _
          refine XS.iconst X242.here hx rfl (hb hby at_412) ?_
          show Steps p.tables e below (T242.setTop (mkF m 413 #[.val (.int p1), .val (.int p2), .val (.long q3), .second, .val (.long q4), .second, .val (.int p5), .val (.int p6), .val (.int (p1 &&& (3 : Int32))), .val (.int ((p2 &&& (2147483647 : Int32)) % (10 : Int32))), .val (.ref b1), .val (.ref u125), .val .null, .val .null, .val (.ref s0u), .val (.ref s1u), .val (.int (1 : Int32)), .val (.int (1 : Int32))] [(.int (1 : Int32))])) _
          refine XS.goto X242.here hx rfl (pc0 := 413) (pc' := 417) rfl (hb hby at_413) (by decide) (by decide) ?_
          show Steps p.tables e below (T242.setTop (mkF m 417 #[.val (.int p1), .val (.int p2), .val (.long q3), .second, .val (.long q4), .second, .val (.int p5), .val (.int p6), .val (.int (p1 &&& (3 : Int32))), .val (.int ((p2 &&& (2147483647 : Int32)) % (10 : Int32))), .val (.ref b1), .val (.ref u125), .val .null, .val .null, .val (.ref s0u), .val (.ref s1u), .val (.int (1 : Int32)), .val (.int (1 : Int32))] [(.int (1 : Int32))])) _
          exact retN X242 hx (t := .boolean) Bd.returns (by simp) (hb hby at_417) hr
        · show Q_rm0 Z p1 p2 q3 q4 p5 p6 wV kV w_CSV w_CAMT_054 s0u s0t s0k s1u s1t s1k zc h0 n0 _ T242.heap T242.vm _
          rw [e242]
          exact ⟨rfl, N241⟩
set_option maxRecDepth 65536 in
set_option maxHeartbeats 40000000 in
theorem comes_1 {Post : Tables → Env → Array Value → State → Outcome → State → Prop} (hpost : ∀ tb e args s v u, (limb_1_1.after args s (.returned v) u = true ∧ limb_1_2.after args s (.returned v) u = true ∧ True) → FramedW s (.returned v) u (Jvm.fieldLocs frame_1_writes args s ++ Jvm.arrayLocs frame_1_arrays args s ++ Jvm.staticLocs frame_1_statics s) 32 3264 → Post tb e args s (.returned v) u) :
    ArmFor flags0 classFile x code maxLocals ret World_1 tables_1 room_1 Calls_1 rest_1 Pre_1 Post := by
  intro l hfl _ _ p e ha hc hk s m args below hf hA hF happ hP
  obtain ⟨hcalls, hrest, hpre⟩ := hP
  obtain ⟨-, -, -, hnamed, -, -, -, hat⟩ := (Spec.applies_iff hf).mp happ
  obtain ⟨hg, hn⟩ := and_e (Cond.before_iff.mp (show (Jvm.Cond.and given_1 narrow_1).before args s = true from hpre))
  obtain ⟨hcount, hgs⟩ := and_e hg
  obtain ⟨hg0, hgr0⟩ := and_e hgs
  obtain ⟨hg1, hgr1⟩ := and_e hgr0
  obtain ⟨hg2, hgr2⟩ := and_e hgr1
  obtain ⟨hg3, hgr3⟩ := and_e hgr2
  obtain ⟨hg4, hgr4⟩ := and_e hgr3
  obtain ⟨w0, w1, w2, w3, w4, w5, rfl⟩ : ∃ w0 w1 w2 w3 w4 w5 : Value, args = #[w0, w1, w2, w3, w4, w5] := by
    have hs : args.size = 6 := by simpa [Cond.value, given_1] using hcount
    obtain ⟨L⟩ := args
    match L, hs with
    | [w0, w1, w2, w3, w4, w5], _ => exact ⟨w0, w1, w2, w3, w4, w5, rfl⟩
  have hw := fun d (hd : d ∈ tables_1) => atoms_spec (ws := Jvm.Cond.code x code maxLocals ret :: tables_1) hat d (List.mem_cons_of_mem _ hd)
  have hfit : Fit s := fun {y c} hc i hi => by
    obtain ⟨ha, rfl⟩ := Array.getElem?_eq_some_iff.mp hc
    have q := List.all_eq_true.mp ((Array.all_eq_true_iff_forall_mem.mp hF) _ (Array.getElem_mem ha)) i (List.mem_range.mpr hi)
    simpa [Array.getElem?_eq_getElem hi] using q
  obtain ⟨hsets, hown0⟩ := atoms_of _ (rest_1_c_eq ▸ (show rest_1_c.before _ s = true from hrest))
  have hr0 := Cond.before_iff.mp hown0
  obtain ⟨i0, ei0⟩ := is_v hg0
  obtain rfl : w0 = (.int i0) := Option.some.inj ei0
  obtain ⟨i1, ei1⟩ := is_v hg1
  obtain rfl : w1 = (.int i1) := Option.some.inj ei1
  obtain ⟨i2, ei2⟩ := isL_v hg2
  obtain rfl : w2 = (.long i2) := Option.some.inj ei2
  obtain ⟨i3, ei3⟩ := isL_v hg3
  obtain rfl : w3 = (.long i3) := Option.some.inj ei3
  obtain ⟨i4, ei4⟩ := is_v hg4
  obtain rfl : w4 = (.int i4) := Option.some.inj ei4
  obtain ⟨i5, ei5⟩ := is_v hgr4
  obtain rfl : w5 = (.int i5) := Option.some.inj ei5
  obtain ⟨c0, hr_0⟩ := and_e hn
  obtain ⟨c1, hr_1⟩ := and_e hr_0
  obtain ⟨c2, hr_2⟩ := and_e hr_1
  obtain ⟨c3, hr_3⟩ := and_e hr_2
  obtain ⟨c4, hr_4⟩ := and_e hr_3
  obtain ⟨c5, hr_5⟩ := and_e hr_4
  obtain ⟨c6, hr_6⟩ := and_e hr_5
  obtain ⟨c7, hr_7⟩ := and_e hr_6
  obtain ⟨c8, hr_8⟩ := and_e hr_7
  obtain ⟨c9, hr_9⟩ := and_e hr_8
  obtain ⟨c10, hr_10⟩ := and_e hr_9
  obtain ⟨c11, hr_11⟩ := and_e hr_10
  obtain ⟨c12, hr_12⟩ := and_e hr_11
  obtain ⟨c13, hr_13⟩ := and_e hr_12
  obtain ⟨c14, hr_14⟩ := and_e hr_13
  obtain ⟨c15, hr_15⟩ := and_e hr_14
  obtain ⟨c16, hr_16⟩ := and_e hr_15
  obtain ⟨c17, hr_17⟩ := and_e hr_16
  obtain ⟨c18, hr_18⟩ := and_e hr_17
  obtain ⟨c19, hr_19⟩ := and_e hr_18
  obtain ⟨c20, hr_20⟩ := and_e hr_19
  obtain ⟨c21, hr_21⟩ := and_e hr_20
  obtain ⟨c22, hr_22⟩ := and_e hr_21
  obtain ⟨c23, hr_23⟩ := and_e hr_22
  obtain ⟨c24, hr_24⟩ := and_e hr_23
  obtain ⟨c25, hr_25⟩ := and_e hr_24
  have c26 := hr_25
  obtain ⟨w_CSV, ev_CSV⟩ := exa_v c3
  have S_CSV : Sta s s.heap "com/example/payspread/payspread/io/PaymentsFile$Format" "CSV" "Lcom/example/payspread/payspread/io/PaymentsFile$Format;" (.ref w_CSV) := Sta.start ev_CSV (Or.inr ⟨(hw _ (List.mem_of_getElem? (i := 38) rfl)), (hw _ (List.mem_of_getElem? (i := 52) rfl))⟩)
  have E_CSV := Exa.start ev_CSV c3
  obtain ⟨w_CAMT_054, ev_CAMT_054⟩ := exa_v c5
  have S_CAMT_054 : Sta s s.heap "com/example/payspread/payspread/io/PaymentsFile$Format" "CAMT_054" "Lcom/example/payspread/payspread/io/PaymentsFile$Format;" (.ref w_CAMT_054) := Sta.start ev_CAMT_054 (Or.inr ⟨(hw _ (List.mem_of_getElem? (i := 38) rfl)), (hw _ (List.mem_of_getElem? (i := 53) rfl))⟩)
  have E_CAMT_054 := Exa.start ev_CAMT_054 c5
  obtain ⟨wV, evV⟩ := arr_v c0
  have S_V : Sta s s.heap "com/example/payspread/payspread/io/PaymentsFile$Format" "$VALUES" "[Lcom/example/payspread/payspread/io/PaymentsFile$Format;" (.ref wV) := Sta.start evV (Or.inr ⟨(hw _ (List.mem_of_getElem? (i := 38) rfl)), (hw _ (List.mem_of_getElem? (i := 44) rfl))⟩)
  obtain ⟨clV, ArV⟩ := Arr.start evV c0
  have E_V := Exa.start evV c1
  obtain ⟨hSV, -, hzV⟩ := own_len evV ArV c2
  have AV0 := own_elemR (j := (0 : Int32)) evV ArV c4 ev_CSV rfl (by decide)
  have AV1 := own_elemR (j := (1 : Int32)) evV ArV c6 ev_CAMT_054 rfl (by decide)
  have V_V : Arv s s.heap wV clV.cls (.object "com/example/payspread/payspread/io/PaymentsFile$Format") (2 : Int32) [.ref w_CSV, .ref w_CAMT_054] .null := Arv.start hfit ArV hzV (len_of hSV (by decide)) (by decide) rfl ⟨AV0, AV1, trivial⟩
  obtain ⟨s0u, evs0u⟩ := exa_v c7
  have s0F : Fld s s.heap w_CSV "com/example/payspread/payspread/io/PaymentsFile$Format" "formatName" "Ljava/lang/String;" (.ref s0u) := Fld.start ((fld_at ev_CSV).symm.trans evs0u)
  have s0E := Exa.start evs0u c7
  have s0C := own_fld evs0u c8
  obtain ⟨s0t, evs0t⟩ := arr_v c9
  have s0V : Fld s s.heap s0u "java/lang/String" "value" "[B" (.ref s0t) := Fld.start ((fld_at evs0u).symm.trans evs0t)
  obtain ⟨cls0, Ars0⟩ := Arr.start evs0t c9
  obtain ⟨hSs0, -, hzs0⟩ := own_len evs0t Ars0 c10
  have Bs0_0 := own_elem (j := (0 : Int32)) evs0t Ars0 c11 (by decide)
  have Bs0_1 := own_elem (j := (1 : Int32)) evs0t Ars0 c16 (by decide)
  have Bs0_2 := own_elem (j := (2 : Int32)) evs0t Ars0 c17 (by decide)
  have s0K : Arv s s.heap s0t cls0.cls .byte (3 : Int32) (cs0.map Value.int) (.int 0) := Arv.start hfit Ars0 hzs0 (len_of hSs0 (by decide)) (by decide) rfl ⟨Bs0_0, Bs0_1, Bs0_2, trivial⟩
  obtain ⟨s1u, evs1u⟩ := exa_v c12
  have s1F : Fld s s.heap w_CAMT_054 "com/example/payspread/payspread/io/PaymentsFile$Format" "formatName" "Ljava/lang/String;" (.ref s1u) := Fld.start ((fld_at ev_CAMT_054).symm.trans evs1u)
  have s1E := Exa.start evs1u c12
  have s1C := own_fld evs1u c13
  obtain ⟨s1t, evs1t⟩ := arr_v c14
  have s1V : Fld s s.heap s1u "java/lang/String" "value" "[B" (.ref s1t) := Fld.start ((fld_at evs1u).symm.trans evs1t)
  obtain ⟨cls1, Ars1⟩ := Arr.start evs1t c14
  obtain ⟨hSs1, -, hzs1⟩ := own_len evs1t Ars1 c15
  have Bs1_0 := own_elem (j := (0 : Int32)) evs1t Ars1 c19 (by decide)
  have Bs1_1 := own_elem (j := (1 : Int32)) evs1t Ars1 c20 (by decide)
  have Bs1_2 := own_elem (j := (2 : Int32)) evs1t Ars1 c21 (by decide)
  have Bs1_3 := own_elem (j := (3 : Int32)) evs1t Ars1 c22 (by decide)
  have Bs1_4 := own_elem (j := (4 : Int32)) evs1t Ars1 c23 (by decide)
  have Bs1_5 := own_elem (j := (5 : Int32)) evs1t Ars1 c24 (by decide)
  have Bs1_6 := own_elem (j := (6 : Int32)) evs1t Ars1 c25 (by decide)
  have Bs1_7 := own_elem (j := (7 : Int32)) evs1t Ars1 c26 (by decide)
  have s1K : Arv s s.heap s1t cls1.cls .byte (8 : Int32) (cs1.map Value.int) (.int 0) := Arv.start hfit Ars1 hzs1 (len_of hSs1 (by decide)) (by decide) rfl ⟨Bs1_0, Bs1_1, Bs1_2, Bs1_3, Bs1_4, Bs1_5, Bs1_6, Bs1_7, trivial⟩
  obtain ⟨zc, evc⟩ := is_v (Cond.before_iff.mp (hsets _ (List.mem_of_getElem? (i := 1) rfl)))
  have S_C : Sta s s.heap "java/lang/String" "COMPACT_STRINGS" "Z" (.int zc) := Sta.start evc (Or.inl (hsets _ (List.mem_of_getElem? (i := 0) rfl)))
  have hzc : ¬ zc = 0 := gotF (Cond.eq_ints evc (Term.int_eval 0)) (not_v (Cond.before_iff.mp (hsets _ (List.mem_of_getElem? (i := 2) rfl))))
  have hcw : Jvm.Lit.compactW.before _ s = true := (hsets _ (List.mem_of_getElem? (i := 2) rfl))
  obtain ⟨n, o, h1, h2, h3, _, L, rfl, ⟨rfl, N⟩, hq⟩ := rm0 l s _ hw tables_1 i0 i1 i2 i3 i4 i5 wV clV.cls w_CSV w_CAMT_054 s0u s0t cls0.cls s1u s1t cls1.cls zc s.heap s.heap.size (Nat.le_refl _) S_V V_V E_V s0F s0E s0V s0C s0K s1F s1E s1V s1C s1K S_C hzc S_CSV S_CAMT_054 E_CSV E_CAMT_054 (fun _ _ q => q) hcw (show Jvm.Lit.constHeld s "java/lang/String" 7 from hcalls.1 ("java/lang/String", (7 : Nat)) (List.mem_of_getElem? (i := 2) rfl)) (show Jvm.Lit.constHeld s "com/example/payspread/payspread/io/FormatNamedPinLaw" 22 from hcalls.1 ("com/example/payspread/payspread/io/FormatNamedPinLaw", (22 : Nat)) (List.mem_of_getElem? (i := 0) rfl)) (show Jvm.Lit.constHeld s "com/example/payspread/payspread/io/FormatNamedPinLaw" 34 from hcalls.1 ("com/example/payspread/payspread/io/FormatNamedPinLaw", (34 : Nat)) (List.mem_of_getElem? (i := 1) rfl)) rfl p e ha hc hk s m _ below hf ((Spec.applies_iff_loose hf).mp happ).1 ⟨rfl, State.Warmed39.refl s, rfl, rfl⟩ trivial
  refine ⟨n, _, h1, h2, h3, hpost _ _ _ _ _ _ ⟨Cond.after_iff.mpr rfl, Cond.after_iff.mpr (eq_i res_at (Term.int_eval (1)) rfl), trivial⟩ ⟨hq.1, hq.2.1, hq.2.2.1, (hq.2.2.2.sift fun y hy => Or.inr (N y hy)).mono (by decide) (by decide)⟩⟩
theorem main_1_1 : Claimed_1_1 := comes_1 fun _ _ _ _ _ _ h hF => ⟨h.1, hF⟩
theorem main_1_2 : Claimed_1_2 := comes_1 fun _ _ _ _ _ _ h hF => ⟨h.2.1, hF⟩
end Jvm.Pilot.@@N@@
namespace Jvm.Pilot.@@N@@
open Jvm Jvm.ClassFile Sem Op Lib Jvm.Free Jvm.Stand Jvm.Pilot.@@N@@.Jvm.D
/-! MADE BY PROGRAM (witnessworld.py) out of the Statement's table words and the real class files: 22 classes; the members and pool entries that the words name. The judged class is class 1, her method 1. -/
namespace start1
open Jvm.ClassFile
def u (s : String) : CpInfo := .utf8 (stringToUtf16 s)
/-- a pool by its gaps: so many unusable entries, then the entry; so many at the end -/
def gap : Nat → List CpInfo → List CpInfo
  | 0, r => r
  | n + 1, r => .unusable :: gap n r
def poolList (es : List (Nat × CpInfo)) (last : Nat) : List CpInfo := es.foldr (fun e r => gap e.1 (e.2 :: r)) (gap last [])
def pool (es : List (Nat × CpInfo)) (last : Nat) : Array CpInfo := ⟨poolList es last⟩
def fileOf (pool : Array CpInfo) (this : Nat) (attrs : Array Attribute := #[]) (ms : Array MethodInfo := #[]) (fl : Nat := 33) (sup : Nat := 0) (ifs : Array Nat := #[]) (fds : Array FieldInfo := #[]) : ClassFile where
  minorVersion := 0
  majorVersion := 65
  constantPool := pool
  accessFlags := fl
  thisClass := this
  superClass := sup
  interfaces := ifs
  fields := fds
  methods := ms
  attributes := attrs
def plain (name : String) (sup : Option ClassId) : Class where
  name := name
  kind := .ordinary
  loader := none
  accessFlags := 33
  super := sup
  interfaces := #[]
  cf := none
  fields := #[]
  methods := #[]
  instanceTypes := #[]
  staticTypes := #[]
  resolved := #[]
  callSites := []
  init := .initialized
  statics := none
  mirror := none

def pool0 : Array CpInfo := pool [(5, u "<init>"), (0, u "()V"), (1, .class_ 10), (1, u "java/lang/Object"), (85, u "clone"), (0, u "()Ljava/lang/Object;")] 26

def k0c0 : Code := { maxStack := 0, maxLocals := 1, code := object_method_1_code, exceptionTable := #[], attributes := #[] }
def k0m0 : Method := { name := "<init>", desc := "()V", sig := { parameters := [], returnType := none }, accessFlags := 1, code := some k0c0 }
def k0m1 : Method := { name := "clone", desc := "()Ljava/lang/Object;", sig := { parameters := [], returnType := some (.object "java/lang/Object") }, accessFlags := 260, code := none }
/-- java/lang/Object -/
def k0 : Class := { plain "java/lang/Object" none with
  accessFlags := 33
  interfaces := #[]
  cf := some (fileOf pool0 8 #[] #[{ accessFlags := 1, nameIndex := 5, descriptorIndex := 6, attributes := #[] }, { accessFlags := 260, nameIndex := 96, descriptorIndex := 97, attributes := #[] }] 33 0 #[] #[])
  fields := #[]
  methods := #[k0m0, k0m1]
  instanceTypes := #[]
  staticTypes := #[]
  resolved := Array.replicate 124 none
  statics := none }

def pool1 : Array CpInfo := pool [(2, .class_ 4), (1, u "java/lang/Object"), (0, u "<init>"), (0, u "()V"), (0, .integer 2147483647), (0, .long 255), (1, .methodref 11 12), (0, .class_ 13), (0, .nameAndType 14 15), (0, u "com/example/payspread/payspread/io/FormatNamedPinLaw"), (0, u "str"), (0, u "(I[C)Ljava/lang/String;"), (0, .methodref 17 18), (0, .class_ 19), (0, .nameAndType 20 21), (0, u "com/example/payspread/payspread/io/PaymentsFile$Format"), (0, u "named"), (0, u "(Ljava/lang/String;)Lcom/example/payspread/payspread/io/PaymentsFile$Format;"), (0, .string 23), (0, u "csv"), (0, .methodref 25 26), (0, .class_ 27), (0, .nameAndType 28 29), (0, u "java/lang/String"), (0, u "equals"), (0, u "(Ljava/lang/Object;)Z"), (0, .fieldref 17 31), (0, .nameAndType 32 33), (0, u "CSV"), (0, u "Lcom/example/payspread/payspread/io/PaymentsFile$Format;"), (0, .string 35), (0, u "camt.054"), (0, .fieldref 17 37), (0, .nameAndType 38 33), (0, u "CAMT_054"), (0, .methodref 17 40), (0, .nameAndType 41 42), (0, u "formatName"), (0, u "()Ljava/lang/String;"), (0, .methodref 25 44), (0, .nameAndType 5 45), (0, u "([C)V"), (2, u "law"), (0, u "(IIJJII)Z")] 9

def k1m0 : Method := { name := "<init>", desc := "()V", sig := { parameters := [], returnType := none }, accessFlags := 1, code := none }
def k1c1 : Code := { maxStack := 6, maxLocals := 18, code := code, exceptionTable := #[], attributes := #[] }
def k1m1 : Method := { name := "law", desc := "(IIJJII)Z", sig := { parameters := [.int, .int, .long, .long, .int, .int], returnType := some .boolean }, accessFlags := 9, code := some k1c1 }
def k1c2 : Code := { maxStack := 7, maxLocals := 2, code := method_3_code, exceptionTable := #[], attributes := #[] }
def k1m2 : Method := { name := "str", desc := "(I[C)Ljava/lang/String;", sig := { parameters := [.int, (.array .char)], returnType := some (.object "java/lang/String") }, accessFlags := 10, code := some k1c2 }
/-- com/example/payspread/payspread/io/FormatNamedPinLaw -/
def k1 : Class := { plain "com/example/payspread/payspread/io/FormatNamedPinLaw" (some 0) with
  accessFlags := 49
  interfaces := #[]
  cf := some (fileOf pool1 11 #[] #[{ accessFlags := 1, nameIndex := 5, descriptorIndex := 6, attributes := #[] }, { accessFlags := 9, nameIndex := 48, descriptorIndex := 49, attributes := #[] }, { accessFlags := 10, nameIndex := 14, descriptorIndex := 15, attributes := #[] }] 49 2 #[] #[])
  fields := #[]
  methods := #[k1m0, k1m1, k1m2]
  instanceTypes := #[]
  staticTypes := #[]
  resolved := Array.replicate 59 none
  statics := none }

def pool2 : Array CpInfo := pool [(1, .class_ 2), (0, u "java/io/Serializable"), (0, .class_ 4), (0, u "java/lang/Object")] 2

/-- java/io/Serializable -/
def k2 : Class := { plain "java/io/Serializable" (some 0) with
  accessFlags := 1537
  interfaces := #[]
  cf := some (fileOf pool2 1 #[] #[] 1537 3 #[] #[])
  fields := #[]
  methods := #[]
  instanceTypes := #[]
  staticTypes := #[]
  resolved := Array.replicate 7 none
  statics := none }

def pool3 : Array CpInfo := pool [(1, .class_ 2), (0, u "java/lang/Comparable"), (0, .class_ 4), (0, u "java/lang/Object")] 7

/-- java/lang/Comparable -/
def k3 : Class := { plain "java/lang/Comparable" (some 0) with
  accessFlags := 1537
  interfaces := #[]
  cf := some (fileOf pool3 1 #[] #[] 1537 3 #[] #[])
  fields := #[]
  methods := #[]
  instanceTypes := #[]
  staticTypes := #[]
  resolved := Array.replicate 12 none
  statics := none }

def pool4 : Array CpInfo := pool [(2, .class_ 4), (1, u "java/lang/CharSequence"), (42, .class_ 48), (0, u "java/lang/CharSequence$1CodePointIterator"), (10, .class_ 60), (0, u "java/lang/CharSequence$1CharIterator"), (5, .class_ 67), (0, u "java/lang/Object")] 63

/-- java/lang/CharSequence -/
def k4 : Class := { plain "java/lang/CharSequence" (some 0) with
  accessFlags := 1537
  interfaces := #[]
  cf := some (fileOf pool4 2 #[.nestMembers #[47, 59]] #[] 1537 66 #[] #[])
  fields := #[]
  methods := #[]
  instanceTypes := #[]
  staticTypes := #[]
  resolved := Array.replicate 131 none
  statics := none }

def pool5 : Array CpInfo := pool [(1, .class_ 2), (0, u "java/lang/constant/Constable"), (0, .class_ 4), (0, u "java/lang/Object")] 6

/-- java/lang/constant/Constable -/
def k5 : Class := { plain "java/lang/constant/Constable" (some 0) with
  accessFlags := 1537
  interfaces := #[]
  cf := some (fileOf pool5 1 #[] #[] 1537 3 #[] #[])
  fields := #[]
  methods := #[]
  instanceTypes := #[]
  staticTypes := #[]
  resolved := Array.replicate 11 none
  statics := none }

def pool6 : Array CpInfo := pool [(1, .class_ 2), (0, u "java/lang/constant/ConstantDesc"), (0, .class_ 4), (0, u "java/lang/Object")] 32

/-- java/lang/constant/ConstantDesc -/
def k6 : Class := { plain "java/lang/constant/ConstantDesc" (some 0) with
  accessFlags := 1537
  interfaces := #[]
  cf := some (fileOf pool6 1 #[] #[] 1537 3 #[] #[])
  fields := #[]
  methods := #[]
  instanceTypes := #[]
  staticTypes := #[]
  resolved := Array.replicate 37 none
  statics := none }

def pool7 : Array CpInfo := pool [(1, .methodref 2 3), (0, .class_ 4), (0, .nameAndType 5 6), (0, u "java/lang/Object"), (0, u "<init>"), (0, u "()V"), (0, .string 8), (0, u ""), (0, .fieldref 10 11), (0, .class_ 12), (0, .nameAndType 13 14), (0, u "java/lang/String"), (0, u "value"), (0, u "[B"), (0, .fieldref 10 16), (0, .nameAndType 17 18), (0, u "coder"), (0, u "B"), (2, u "hash"), (0, u "I"), (2, u "hashIsZero"), (0, u "Z"), (0, .methodref 10 28), (0, .nameAndType 5 29), (0, u "([CIILjava/lang/Void;)V"), (8, .fieldref 10 39), (0, .nameAndType 40 26), (0, u "COMPACT_STRINGS"), (1, .class_ 44), (1, u "java/lang/StringUTF16"), (0, u "compress"), (1, .methodref 42 48), (0, .nameAndType 49 50), (0, u "coderFromArrayLen"), (0, u "([BI)B"), (56, .class_ 109), (1, u "java/lang/StringLatin1"), (67, .methodref 42 178), (0, .nameAndType 45 179), (0, u "([CII)[B"), (361, .methodref 107 542), (0, .nameAndType 543 544), (0, u "equals"), (0, u "([B[B)Z"), (28, u "(Ljava/lang/Object;)Z"), (1, .class_ 576), (0, u "java/lang/CharSequence"), (22, u "CASE_INSENSITIVE_ORDER"), (0, u "Ljava/util/Comparator;"), (409, u "([C)V"), (90, u "serialPersistentFields"), (0, u "[Ljava/io/ObjectStreamField;"), (0, .class_ 1104), (0, u "java/lang/String$CaseInsensitiveComparator"), (1, .class_ 1107), (0, u "java/io/Serializable"), (0, .class_ 1109), (0, u "java/lang/Comparable"), (0, .class_ 1111), (0, u "java/lang/constant/Constable"), (0, .class_ 1113), (0, u "java/lang/constant/ConstantDesc"), (2, u "serialVersionUID"), (0, u "J"), (3, u "REPL"), (0, u "C"), (2, u "LATIN1"), (1, u "UTF16")] 323

def k7m0 : Method := { name := "<init>", desc := "()V", sig := { parameters := [], returnType := none }, accessFlags := 1, code := none }
def k7c1 : Code := { maxStack := 5, maxLocals := 2, code := jdk_42_method_3_code, exceptionTable := #[], attributes := #[] }
def k7m1 : Method := { name := "<init>", desc := "([C)V", sig := { parameters := [(.array .char)], returnType := none }, accessFlags := 1, code := some k7c1 }
def k7c2 : Code := { maxStack := 2, maxLocals := 3, code := jdk_42_method_66_code, exceptionTable := #[], attributes := #[] }
def k7m2 : Method := { name := "equals", desc := "(Ljava/lang/Object;)Z", sig := { parameters := [(.object "java/lang/Object")], returnType := some .boolean }, accessFlags := 1, code := some k7c2 }
def k7c3 : Code := { maxStack := 4, maxLocals := 6, code := jdk_42_method_149_code, exceptionTable := #[], attributes := #[] }
def k7m3 : Method := { name := "<init>", desc := "([CIILjava/lang/Void;)V", sig := { parameters := [(.array .char), .int, .int, (.object "java/lang/Void")], returnType := none }, accessFlags := 2, code := some k7c3 }
/-- java/lang/String -/
def k7 : Class := { plain "java/lang/String" (some 0) with
  accessFlags := 49
  interfaces := #[2, 3, 4, 5, 6]
  cf := some (fileOf pool7 10 #[.nestMembers #[1103]] #[{ accessFlags := 1, nameIndex := 5, descriptorIndex := 6, attributes := #[] }, { accessFlags := 1, nameIndex := 5, descriptorIndex := 1010, attributes := #[] }, { accessFlags := 1, nameIndex := 543, descriptorIndex := 573, attributes := #[] }, { accessFlags := 2, nameIndex := 5, descriptorIndex := 29, attributes := #[] }] 49 2 #[1106, 1108, 575, 1110, 1112] #[{ accessFlags := 18, nameIndex := 13, descriptorIndex := 14, attributes := #[] }, { accessFlags := 18, nameIndex := 17, descriptorIndex := 18, attributes := #[] }, { accessFlags := 2, nameIndex := 21, descriptorIndex := 22, attributes := #[] }, { accessFlags := 2, nameIndex := 25, descriptorIndex := 26, attributes := #[] }, { accessFlags := 26, nameIndex := 1116, descriptorIndex := 1117, attributes := #[] }, { accessFlags := 24, nameIndex := 40, descriptorIndex := 26, attributes := #[] }, { accessFlags := 26, nameIndex := 1101, descriptorIndex := 1102, attributes := #[] }, { accessFlags := 26, nameIndex := 1121, descriptorIndex := 1122, attributes := #[] }, { accessFlags := 25, nameIndex := 599, descriptorIndex := 600, attributes := #[] }, { accessFlags := 24, nameIndex := 1125, descriptorIndex := 18, attributes := #[] }, { accessFlags := 24, nameIndex := 1127, descriptorIndex := 18, attributes := #[] }])
  fields := #[{ name := "value", type := (.array .byte), accessFlags := 18, slot := 0, constantValue := 0 }, { name := "coder", type := .byte, accessFlags := 18, slot := 1, constantValue := 0 }, { name := "hash", type := .int, accessFlags := 2, slot := 2, constantValue := 0 }, { name := "hashIsZero", type := .boolean, accessFlags := 2, slot := 3, constantValue := 0 }, { name := "serialVersionUID", type := .long, accessFlags := 26, slot := 0, constantValue := 0 }, { name := "COMPACT_STRINGS", type := .boolean, accessFlags := 24, slot := 1, constantValue := 0 }, { name := "serialPersistentFields", type := (.array (.object "java/io/ObjectStreamField")), accessFlags := 26, slot := 2, constantValue := 0 }, { name := "REPL", type := .char, accessFlags := 26, slot := 3, constantValue := 0 }, { name := "CASE_INSENSITIVE_ORDER", type := (.object "java/util/Comparator"), accessFlags := 25, slot := 4, constantValue := 0 }, { name := "LATIN1", type := .byte, accessFlags := 24, slot := 5, constantValue := 0 }, { name := "UTF16", type := .byte, accessFlags := 24, slot := 6, constantValue := 0 }]
  methods := #[k7m0, k7m1, k7m2, k7m3]
  instanceTypes := #[(.array .byte), .byte, .int, .boolean]
  staticTypes := #[.long, .boolean, (.array (.object "java/io/ObjectStreamField")), .char, (.object "java/util/Comparator"), .byte, .byte]
  resolved := Array.replicate 1451 none
  statics := some 0 }

def pool8 : Array CpInfo := pool [(6, .class_ 8), (1, u "java/lang/Object"), (0, u "<init>"), (0, u "()V"), (1, .class_ 14), (1, u "java/lang/StringUTF16"), (31, u "$assertionsDisabled"), (0, u "Z"), (13, u "HI_BYTE_SHIFT"), (0, u "I"), (2, u "LO_BYTE_SHIFT"), (49, .methodref 12 116), (0, .nameAndType 117 118), (0, u "compress"), (0, u "([CI[BII)I"), (3, u "([CII)[B"), (138, u "coderFromArrayLen"), (0, u "([BI)B"), (106, .class_ 371), (1, u "java/lang/StringUTF16$LinesSpliterator"), (58, u "MAX_LENGTH"), (196, .class_ 628), (0, u "java/lang/StringUTF16$CodePointsSpliterator"), (0, .class_ 630), (0, u "java/lang/StringUTF16$CharsSpliterator")] 4

def k8m0 : Method := { name := "<init>", desc := "()V", sig := { parameters := [], returnType := none }, accessFlags := 0, code := none }
def k8c1 : Code := { maxStack := 2, maxLocals := 2, code := jdk_52_method_15_code, exceptionTable := #[], attributes := #[] }
def k8m1 : Method := { name := "coderFromArrayLen", desc := "([BI)B", sig := { parameters := [(.array .byte), .int], returnType := some .byte }, accessFlags := 8, code := some k8c1 }
def k8c2 : Code := { maxStack := 5, maxLocals := 6, code := jdk_52_method_16_code, exceptionTable := #[], attributes := #[] }
def k8m2 : Method := { name := "compress", desc := "([CII)[B", sig := { parameters := [(.array .char), .int, .int], returnType := some (.array .byte) }, accessFlags := 9, code := some k8c2 }
def k8c3 : Code := { maxStack := 3, maxLocals := 7, code := jdk_52_method_21_code, exceptionTable := #[], attributes := #[] }
def k8m3 : Method := { name := "compress", desc := "([CI[BII)I", sig := { parameters := [(.array .char), .int, (.array .byte), .int, .int], returnType := some .int }, accessFlags := 9, code := some k8c3 }
/-- java/lang/StringUTF16 -/
def k8 : Class := { plain "java/lang/StringUTF16" (some 0) with
  accessFlags := 48
  interfaces := #[]
  cf := some (fileOf pool8 12 #[.nestMembers #[627, 629, 369]] #[{ accessFlags := 0, nameIndex := 9, descriptorIndex := 10, attributes := #[] }, { accessFlags := 8, nameIndex := 261, descriptorIndex := 262, attributes := #[] }, { accessFlags := 9, nameIndex := 117, descriptorIndex := 122, attributes := #[] }, { accessFlags := 9, nameIndex := 117, descriptorIndex := 118, attributes := #[] }] 48 6 #[] #[{ accessFlags := 26, nameIndex := 61, descriptorIndex := 62, attributes := #[] }, { accessFlags := 26, nameIndex := 65, descriptorIndex := 62, attributes := #[] }, { accessFlags := 24, nameIndex := 430, descriptorIndex := 62, attributes := #[] }, { accessFlags := 4120, nameIndex := 46, descriptorIndex := 47, attributes := #[] }])
  fields := #[{ name := "HI_BYTE_SHIFT", type := .int, accessFlags := 26, slot := 0, constantValue := 0 }, { name := "LO_BYTE_SHIFT", type := .int, accessFlags := 26, slot := 1, constantValue := 0 }, { name := "MAX_LENGTH", type := .int, accessFlags := 24, slot := 2, constantValue := 0 }, { name := "$assertionsDisabled", type := .boolean, accessFlags := 4120, slot := 3, constantValue := 0 }]
  methods := #[k8m0, k8m1, k8m2, k8m3]
  instanceTypes := #[]
  staticTypes := #[.int, .int, .int, .boolean]
  resolved := Array.replicate 635 none
  statics := none }

def pool9 : Array CpInfo := pool [(2, .class_ 4), (1, u "java/lang/Enum"), (0, u "name"), (0, u "Ljava/lang/String;"), (2, u "ordinal"), (0, u "I"), (1, .class_ 14), (1, u "java/lang/Object"), (4, u "hash"), (86, .class_ 108), (1, u "java/lang/Enum$EnumDesc"), (2, .class_ 112), (0, u "java/lang/constant/Constable"), (0, .class_ 114), (0, u "java/lang/Comparable"), (0, .class_ 116), (0, u "java/io/Serializable")] 87

/-- java/lang/Enum -/
def k9 : Class := { plain "java/lang/Enum" (some 0) with
  accessFlags := 1057
  interfaces := #[5, 3, 2]
  cf := some (fileOf pool9 2 #[.nestMembers #[106]] #[] 1057 12 #[111, 113, 115] #[{ accessFlags := 18, nameIndex := 5, descriptorIndex := 6, attributes := #[] }, { accessFlags := 18, nameIndex := 9, descriptorIndex := 10, attributes := #[] }, { accessFlags := 2, nameIndex := 19, descriptorIndex := 10, attributes := #[] }])
  fields := #[{ name := "name", type := (.object "java/lang/String"), accessFlags := 18, slot := 0, constantValue := 0 }, { name := "ordinal", type := .int, accessFlags := 18, slot := 1, constantValue := 0 }, { name := "hash", type := .int, accessFlags := 2, slot := 2, constantValue := 0 }]
  methods := #[]
  instanceTypes := #[(.object "java/lang/String"), .int, .int]
  staticTypes := #[]
  resolved := Array.replicate 204 none
  statics := none }

def pool10 : Array CpInfo := pool [(1, .class_ 2), (0, u "com/example/payspread/payspread/io/PaymentsFile$Format"), (2, u "CSV"), (0, u "Lcom/example/payspread/payspread/io/PaymentsFile$Format;"), (2, u "CAMT_054"), (0, .fieldref 1 11), (0, .nameAndType 12 13), (0, u "$VALUES"), (0, u "[Lcom/example/payspread/payspread/io/PaymentsFile$Format;"), (0, .methodref 15 16), (0, .class_ 13), (0, .nameAndType 17 18), (0, u "clone"), (0, u "()Ljava/lang/Object;"), (1, .class_ 22), (1, u "java/lang/Enum"), (6, .fieldref 1 30), (0, .nameAndType 31 32), (0, u "formatName"), (0, u "Ljava/lang/String;"), (0, .methodref 1 34), (0, .nameAndType 35 36), (0, u "values"), (0, u "()[Lcom/example/payspread/payspread/io/PaymentsFile$Format;"), (0, .methodref 38 39), (0, .class_ 40), (0, .nameAndType 41 42), (0, u "java/lang/String"), (0, u "equals"), (0, u "(Ljava/lang/Object;)Z"), (14, u "(Ljava/lang/String;)Lcom/example/payspread/payspread/io/PaymentsFile$Format;"), (3, u "()Ljava/lang/String;"), (0, u "named"), (7, .class_ 71), (0, u "com/example/payspread/payspread/io/PaymentsFile")] 2

def k10c0 : Code := { maxStack := 1, maxLocals := 0, code := prog_25_method_1_code, exceptionTable := #[], attributes := #[] }
def k10m0 : Method := { name := "values", desc := "()[Lcom/example/payspread/payspread/io/PaymentsFile$Format;", sig := { parameters := [], returnType := some (.array (.object "com/example/payspread/payspread/io/PaymentsFile$Format")) }, accessFlags := 9, code := some k10c0 }
def k10c1 : Code := { maxStack := 1, maxLocals := 1, code := prog_25_method_4_code, exceptionTable := #[], attributes := #[] }
def k10m1 : Method := { name := "formatName", desc := "()Ljava/lang/String;", sig := { parameters := [], returnType := some (.object "java/lang/String") }, accessFlags := 1, code := some k10c1 }
def k10c2 : Code := { maxStack := 2, maxLocals := 5, code := prog_25_method_5_code, exceptionTable := #[], attributes := #[] }
def k10m2 : Method := { name := "named", desc := "(Ljava/lang/String;)Lcom/example/payspread/payspread/io/PaymentsFile$Format;", sig := { parameters := [(.object "java/lang/String")], returnType := some (.object "com/example/payspread/payspread/io/PaymentsFile$Format") }, accessFlags := 9, code := some k10c2 }
/-- com/example/payspread/payspread/io/PaymentsFile$Format -/
def k10 : Class := { plain "com/example/payspread/payspread/io/PaymentsFile$Format" (some 9) with
  accessFlags := 16433
  interfaces := #[]
  cf := some (fileOf pool10 1 #[.nestHost 70] #[{ accessFlags := 9, nameIndex := 35, descriptorIndex := 36, attributes := #[] }, { accessFlags := 1, nameIndex := 31, descriptorIndex := 61, attributes := #[] }, { accessFlags := 9, nameIndex := 62, descriptorIndex := 57, attributes := #[] }] 16433 20 #[] #[{ accessFlags := 16409, nameIndex := 5, descriptorIndex := 6, attributes := #[] }, { accessFlags := 16409, nameIndex := 9, descriptorIndex := 6, attributes := #[] }, { accessFlags := 18, nameIndex := 31, descriptorIndex := 32, attributes := #[] }, { accessFlags := 4122, nameIndex := 12, descriptorIndex := 13, attributes := #[] }])
  fields := #[{ name := "CSV", type := (.object "com/example/payspread/payspread/io/PaymentsFile$Format"), accessFlags := 16409, slot := 0, constantValue := 0 }, { name := "CAMT_054", type := (.object "com/example/payspread/payspread/io/PaymentsFile$Format"), accessFlags := 16409, slot := 1, constantValue := 0 }, { name := "formatName", type := (.object "java/lang/String"), accessFlags := 18, slot := 3, constantValue := 0 }, { name := "$VALUES", type := (.array (.object "com/example/payspread/payspread/io/PaymentsFile$Format")), accessFlags := 4122, slot := 2, constantValue := 0 }]
  methods := #[k10m0, k10m1, k10m2]
  instanceTypes := #[(.object "java/lang/String"), .int, .int, (.object "java/lang/String")]
  staticTypes := #[(.object "com/example/payspread/payspread/io/PaymentsFile$Format"), (.object "com/example/payspread/payspread/io/PaymentsFile$Format"), (.array (.object "com/example/payspread/payspread/io/PaymentsFile$Format"))]
  resolved := Array.replicate 74 none
  statics := some 1 }

def pool11 : Array CpInfo := pool [(1, .class_ 2), (0, u "java/lang/Cloneable"), (0, .class_ 4), (0, u "java/lang/Object")] 2

/-- java/lang/Cloneable -/
def k11 : Class := { plain "java/lang/Cloneable" (some 0) with
  accessFlags := 1537
  interfaces := #[]
  cf := some (fileOf pool11 1 #[] #[] 1537 3 #[] #[])
  fields := #[]
  methods := #[]
  instanceTypes := #[]
  staticTypes := #[]
  resolved := Array.replicate 7 none
  statics := none }

def pool12 : Array CpInfo := pool [(4, .class_ 6), (1, u "java/lang/Object"), (0, u "<init>"), (0, u "()V"), (5, .class_ 16), (1, u "java/lang/StringLatin1"), (104, u "$assertionsDisabled"), (0, u "Z"), (98, .class_ 223), (1, u "java/lang/StringLatin1$LinesSpliterator"), (57, u "equals"), (0, u "([B[B)Z"), (107, .class_ 391), (0, u "java/lang/StringLatin1$CharsSpliterator")] 3

def k12m0 : Method := { name := "<init>", desc := "()V", sig := { parameters := [], returnType := none }, accessFlags := 0, code := none }
def k12c1 : Code := { maxStack := 3, maxLocals := 3, code := jdk_43_method_13_code, exceptionTable := #[], attributes := #[] }
def k12m1 : Method := { name := "equals", desc := "([B[B)Z", sig := { parameters := [(.array .byte), (.array .byte)], returnType := some .boolean }, accessFlags := 9, code := some k12c1 }
/-- java/lang/StringLatin1 -/
def k12 : Class := { plain "java/lang/StringLatin1" (some 0) with
  accessFlags := 48
  interfaces := #[]
  cf := some (fileOf pool12 14 #[.nestMembers #[390, 221]] #[{ accessFlags := 0, nameIndex := 7, descriptorIndex := 8, attributes := #[] }, { accessFlags := 9, nameIndex := 281, descriptorIndex := 282, attributes := #[] }] 48 4 #[] #[{ accessFlags := 4120, nameIndex := 121, descriptorIndex := 122, attributes := #[] }])
  fields := #[{ name := "$assertionsDisabled", type := .boolean, accessFlags := 4120, slot := 0, constantValue := 0 }]
  methods := #[k12m0, k12m1]
  instanceTypes := #[]
  staticTypes := #[.boolean]
  resolved := Array.replicate 395 none
  statics := none }

def pool13 : Array CpInfo := pool [(2, .class_ 4), (1, u "java/lang/Object"), (0, u "<init>"), (0, u "()V"), (17, .class_ 26), (1, u "jdk/internal/util/Preconditions"), (28, .class_ 56), (0, u "jdk/internal/util/Preconditions$4"), (57, .class_ 115), (0, u "jdk/internal/util/Preconditions$1"), (7, u "SIOOBE_FORMATTER"), (0, u "Ljava/util/function/BiFunction;"), (0, .class_ 126), (0, u "jdk/internal/util/Preconditions$2"), (3, u "AIOOBE_FORMATTER"), (0, .class_ 132), (0, u "jdk/internal/util/Preconditions$3"), (3, u "IOOBE_FORMATTER")] 57

def k13m0 : Method := { name := "<init>", desc := "()V", sig := { parameters := [], returnType := none }, accessFlags := 1, code := none }
/-- jdk/internal/util/Preconditions -/
def k13 : Class := { plain "jdk/internal/util/Preconditions" (some 0) with
  accessFlags := 33
  interfaces := #[]
  cf := some (fileOf pool13 24 #[.nestMembers #[55, 131, 125, 114]] #[{ accessFlags := 1, nameIndex := 5, descriptorIndex := 6, attributes := #[] }] 33 2 #[] #[{ accessFlags := 25, nameIndex := 123, descriptorIndex := 124, attributes := #[] }, { accessFlags := 25, nameIndex := 130, descriptorIndex := 124, attributes := #[] }, { accessFlags := 25, nameIndex := 136, descriptorIndex := 124, attributes := #[] }])
  fields := #[{ name := "SIOOBE_FORMATTER", type := (.object "java/util/function/BiFunction"), accessFlags := 25, slot := 0, constantValue := 0 }, { name := "AIOOBE_FORMATTER", type := (.object "java/util/function/BiFunction"), accessFlags := 25, slot := 1, constantValue := 0 }, { name := "IOOBE_FORMATTER", type := (.object "java/util/function/BiFunction"), accessFlags := 25, slot := 2, constantValue := 0 }]
  methods := #[k13m0]
  instanceTypes := #[]
  staticTypes := #[(.object "java/util/function/BiFunction"), (.object "java/util/function/BiFunction"), (.object "java/util/function/BiFunction")]
  resolved := Array.replicate 194 none
  statics := some 2 }

def pool14 : Array CpInfo := pool [(9, u "<init>"), (6, .class_ 18), (1, u "java/lang/Object"), (0, u "()V"), (1, .class_ 23), (1, u "jdk/internal/util/ArraysSupport"), (0, u "LOG2_ARRAY_LONG_INDEX_SCALE"), (0, u "I"), (2, u "U"), (0, u "Ljdk/internal/misc/Unsafe;"), (8, u "BIG_ENDIAN"), (0, u "Z"), (8, u "LOG2_BYTE_BIT_SIZE"), (4, u "LOG2_ARRAY_INT_INDEX_SCALE"), (54, u "JLA"), (0, u "Ljdk/internal/access/JavaLangAccess;"), (11, u "LOG2_ARRAY_BOOLEAN_INDEX_SCALE"), (9, u "LOG2_ARRAY_BYTE_INDEX_SCALE"), (5, u "LOG2_ARRAY_CHAR_INDEX_SCALE"), (5, u "LOG2_ARRAY_SHORT_INDEX_SCALE"), (18, u "LOG2_ARRAY_FLOAT_INDEX_SCALE"), (24, u "LOG2_ARRAY_DOUBLE_INDEX_SCALE"), (89, u "T_BOOLEAN"), (2, u "T_CHAR"), (1, u "T_FLOAT"), (1, u "T_DOUBLE"), (1, u "T_BYTE"), (1, u "T_SHORT"), (1, u "T_INT"), (1, u "T_LONG"), (1, u "SOFT_MAX_ARRAY_LENGTH")] 83

def k14m0 : Method := { name := "<init>", desc := "()V", sig := { parameters := [], returnType := none }, accessFlags := 2, code := none }
/-- jdk/internal/util/ArraysSupport -/
def k14 : Class := { plain "jdk/internal/util/ArraysSupport" (some 0) with
  accessFlags := 33
  interfaces := #[]
  cf := some (fileOf pool14 21 #[] #[{ accessFlags := 2, nameIndex := 9, descriptorIndex := 19, attributes := #[] }] 33 16 #[] #[{ accessFlags := 24, nameIndex := 28, descriptorIndex := 29, attributes := #[] }, { accessFlags := 26, nameIndex := 38, descriptorIndex := 39, attributes := #[] }, { accessFlags := 25, nameIndex := 121, descriptorIndex := 25, attributes := #[] }, { accessFlags := 25, nameIndex := 131, descriptorIndex := 25, attributes := #[] }, { accessFlags := 25, nameIndex := 137, descriptorIndex := 25, attributes := #[] }, { accessFlags := 25, nameIndex := 143, descriptorIndex := 25, attributes := #[] }, { accessFlags := 25, nameIndex := 53, descriptorIndex := 25, attributes := #[] }, { accessFlags := 25, nameIndex := 24, descriptorIndex := 25, attributes := #[] }, { accessFlags := 25, nameIndex := 162, descriptorIndex := 25, attributes := #[] }, { accessFlags := 25, nameIndex := 187, descriptorIndex := 25, attributes := #[] }, { accessFlags := 26, nameIndex := 48, descriptorIndex := 25, attributes := #[] }, { accessFlags := 25, nameIndex := 277, descriptorIndex := 25, attributes := #[] }, { accessFlags := 25, nameIndex := 280, descriptorIndex := 25, attributes := #[] }, { accessFlags := 25, nameIndex := 282, descriptorIndex := 25, attributes := #[] }, { accessFlags := 25, nameIndex := 284, descriptorIndex := 25, attributes := #[] }, { accessFlags := 25, nameIndex := 286, descriptorIndex := 25, attributes := #[] }, { accessFlags := 25, nameIndex := 288, descriptorIndex := 25, attributes := #[] }, { accessFlags := 25, nameIndex := 290, descriptorIndex := 25, attributes := #[] }, { accessFlags := 25, nameIndex := 292, descriptorIndex := 25, attributes := #[] }, { accessFlags := 26, nameIndex := 108, descriptorIndex := 109, attributes := #[] }, { accessFlags := 25, nameIndex := 294, descriptorIndex := 25, attributes := #[] }])
  fields := #[{ name := "U", type := (.object "jdk/internal/misc/Unsafe"), accessFlags := 24, slot := 0, constantValue := 0 }, { name := "BIG_ENDIAN", type := .boolean, accessFlags := 26, slot := 1, constantValue := 0 }, { name := "LOG2_ARRAY_BOOLEAN_INDEX_SCALE", type := .int, accessFlags := 25, slot := 2, constantValue := 0 }, { name := "LOG2_ARRAY_BYTE_INDEX_SCALE", type := .int, accessFlags := 25, slot := 3, constantValue := 0 }, { name := "LOG2_ARRAY_CHAR_INDEX_SCALE", type := .int, accessFlags := 25, slot := 4, constantValue := 0 }, { name := "LOG2_ARRAY_SHORT_INDEX_SCALE", type := .int, accessFlags := 25, slot := 5, constantValue := 0 }, { name := "LOG2_ARRAY_INT_INDEX_SCALE", type := .int, accessFlags := 25, slot := 6, constantValue := 0 }, { name := "LOG2_ARRAY_LONG_INDEX_SCALE", type := .int, accessFlags := 25, slot := 7, constantValue := 0 }, { name := "LOG2_ARRAY_FLOAT_INDEX_SCALE", type := .int, accessFlags := 25, slot := 8, constantValue := 0 }, { name := "LOG2_ARRAY_DOUBLE_INDEX_SCALE", type := .int, accessFlags := 25, slot := 9, constantValue := 0 }, { name := "LOG2_BYTE_BIT_SIZE", type := .int, accessFlags := 26, slot := 10, constantValue := 0 }, { name := "T_BOOLEAN", type := .int, accessFlags := 25, slot := 11, constantValue := 0 }, { name := "T_CHAR", type := .int, accessFlags := 25, slot := 12, constantValue := 0 }, { name := "T_FLOAT", type := .int, accessFlags := 25, slot := 13, constantValue := 0 }, { name := "T_DOUBLE", type := .int, accessFlags := 25, slot := 14, constantValue := 0 }, { name := "T_BYTE", type := .int, accessFlags := 25, slot := 15, constantValue := 0 }, { name := "T_SHORT", type := .int, accessFlags := 25, slot := 16, constantValue := 0 }, { name := "T_INT", type := .int, accessFlags := 25, slot := 17, constantValue := 0 }, { name := "T_LONG", type := .int, accessFlags := 25, slot := 18, constantValue := 0 }, { name := "JLA", type := (.object "jdk/internal/access/JavaLangAccess"), accessFlags := 26, slot := 19, constantValue := 0 }, { name := "SOFT_MAX_ARRAY_LENGTH", type := .int, accessFlags := 25, slot := 20, constantValue := 0 }]
  methods := #[k14m0]
  instanceTypes := #[]
  staticTypes := #[(.object "jdk/internal/misc/Unsafe"), .boolean, .int, .int, .int, .int, .int, .int, .int, .int, .int, .int, .int, .int, .int, .int, .int, .int, .int, (.object "jdk/internal/access/JavaLangAccess"), .int]
  resolved := Array.replicate 378 none
  statics := none }

/-- the primitive byte -/
def k15 : Class := { plain "byte" none with kind := .primitive 'B', accessFlags := 0x411 }
/-- [B -/
def k16 : Class := { plain "[B" (some 0) with kind := .array 15 .byte, interfaces := #[11, 2], accessFlags := 1041 }

/-- the primitive char -/
def k17 : Class := { plain "char" none with kind := .primitive 'C', accessFlags := 0x411 }
/-- [C -/
def k18 : Class := { plain "[C" (some 0) with kind := .array 17 .char, interfaces := #[11, 2], accessFlags := 1041 }

/-- the primitive int -/
def k19 : Class := { plain "int" none with kind := .primitive 'I', accessFlags := 0x411 }
/-- [I -/
def k20 : Class := { plain "[I" (some 0) with kind := .array 19 .int, interfaces := #[11, 2], accessFlags := 1041 }

/-- [Lcom/example/payspread/payspread/io/PaymentsFile$Format; -/
def k21 : Class := { plain "[Lcom/example/payspread/payspread/io/PaymentsFile$Format;" (some 0) with kind := .array 10 (.object "com/example/payspread/payspread/io/PaymentsFile$Format"), interfaces := #[11, 2], accessFlags := 1041 }

def heap : Heap := #[{ cls := 7, slots := #[.long 0, .int 1, .null, .int 0, .null, .int 0, .int 0], vm := .statics 7 },
  { cls := 10, slots := #[.ref 4, .ref 5, .ref 3], vm := .statics 10 },
  { cls := 13, slots := #[.null, .null, .null], vm := .statics 13 },
  { cls := 21, slots := #[.ref 4, .ref 5], vm := .none },
  { cls := 10, slots := #[.null, .int 0, .int 0, .ref 6], vm := .none },
  { cls := 10, slots := #[.null, .int 1, .int 0, .ref 7], vm := .none },
  { cls := 7, slots := #[.ref 8, .int 0, .int 0, .int 0], vm := .none },
  { cls := 7, slots := #[.ref 9, .int 0, .int 0, .int 0], vm := .none },
  { cls := 16, slots := #[.int 99, .int 115, .int 118], vm := .none },
  { cls := 16, slots := #[.int 99, .int 97, .int 109, .int 116, .int 46, .int 48, .int 53, .int 52], vm := .none }]
def classes : Array Class := #[k0, k1, k2, k3, k4, k5, k6, k7, k8, k9, k10, k11, k12, k13, k14, k15, k16, k17, k18, k19, k20, k21]
def interned : List (Array UInt16 × Addr) := []
def slotsUsed : Nat := 42
def theMethod : MethodId := ⟨1, 1⟩
def args0 : Array Value := #[.int 5, .int 6, .long 7, .long 8, .int 9, .int 3]
def aboutOver (below : List Frame) : State where
  vm := { classes := classes, interned := interned.toArray }
  heap := heap
  slotsUsed := slotsUsed
  threads := #[{ frames := .invoking theMethod args0 :: below }]
def below0 : List Frame := [.native { method := ⟨0, 0⟩, args := #[] }]
def about1 : State := aboutOver below0
def p0 : Program := .bare "" "" ""
def e0 : Env := launch0.env 0 0 0
theorem w_frames : about1.frames = Frame.invoking theMethod args0 :: below0 := rfl
set_option maxRecDepth 65536 in
theorem w_args : argsFit about1.vm theMethod args0 = true := by decide +kernel
set_option maxRecDepth 65536 in
theorem w_heap : heapFits about1 = true := by decide +kernel
set_option maxRecDepth 65536 in
theorem w_runnable : about1.curStatus? = some .runnable := by decide +kernel
set_option maxRecDepth 65536 in
theorem w_alone : about1.alone = true := by decide +kernel
set_option maxRecDepth 65536 in
theorem w_named : about1.methodNamed? x = some theMethod := by decide +kernel
set_option maxRecDepth 65536 in
theorem w_hears : about1.hears theMethod below0 = true := by decide +kernel
set_option maxRecDepth 65536 in
theorem w_ripe : about1.ripe theMethod args0 below0 = true := by decide +kernel
theorem w_running : about1.status = .running := rfl
set_option maxRecDepth 65536 in
theorem w_room : about1.hasRoom e0.platform room_1 = true :=
  launch0.hasRoom_least _ room_1 (by decide +kernel) (by decide +kernel) (by decide +kernel) (by decide +kernel) (by decide +kernel) (by decide +kernel)
theorem allAtoms_all (ts : List Jvm.Cond) (a : Array Jvm.Value) (st : Jvm.State) : (allAtoms ts).before a st = ts.all (fun c => c.before a st) := by
  induction ts with
  | nil => rfl
  | cons c t ih =>
    show (Jvm.Cond.and c (allAtoms t)).before a st = _
    rw [Jvm.Cond.before_and, ih, List.all_cons]
def words1 : List Jvm.Cond := Jvm.Cond.code x code maxLocals ret :: tables_1
/-- a 'code' word, met by the world's own term for the bytes: nothing is compared byte by byte -/
theorem code_word {y : MethodName} {bytes : ByteArray} {mx : Nat} {rt : Option FieldType} {a : Array Value} {s : State} {m : MethodId} {meth : Method} {c : Code} (h1 : s.methodNamed? y = some m) (h2 : s.vm.method? m = some meth) (h3 : meth.code = some c) (h4 : c.code = bytes)
    (h5 : (c.maxLocals == mx && c.exceptionTable.isEmpty && decide (c.maxStack ≤ mostOperands) && decide (meth.sig.returnType = rt) && !meth.locks && decide (parseMethodDescriptor y.desc = some meth.sig)) = true) : (Jvm.Cond.code y bytes mx rt).before a s = true := by
  simp only [Bool.and_eq_true, beq_iff_eq, Bool.not_eq_true', decide_eq_true_eq] at h5
  obtain ⟨⟨⟨⟨⟨g1, g2⟩, g3⟩, g4⟩, g5⟩, g6⟩ := h5
  simp [Cond.before, Cond.holds, Cond.value, h1, h2, h3, h4, g1, g2, g3, g4, g5, g6]
def isCode : Jvm.Cond → Bool
  | .code _ _ _ _ => true
  | _ => false
theorem all_split {L : List Jvm.Cond} {P : Jvm.Cond → Bool} (h1 : L.all (fun c => isCode c || P c) = true) (h2 : ∀ c ∈ L.filter isCode, P c = true) : L.all P = true := by
  refine List.all_eq_true.mpr fun c hc => ?_
  have h := List.all_eq_true.mp h1 c hc
  rcases Bool.eq_false_or_eq_true (isCode c) with hi | hi
  · exact h2 c (List.mem_filter.mpr ⟨hc, hi⟩)
  · simpa [hi] using h
set_option maxRecDepth 65536 in
theorem w_c0 : (Jvm.Cond.code x code maxLocals ret).before args0 about1 = true := code_word (m := ⟨1, 1⟩) (meth := k1m1) (c := k1c1) (by decide +kernel) rfl rfl rfl (by decide +kernel)
set_option maxRecDepth 65536 in
theorem w_c1 : (Jvm.Cond.code ({ cls := "com/example/payspread/payspread/io/FormatNamedPinLaw", name := "str", desc := "(I[C)Ljava/lang/String;" } : Jvm.MethodName) method_3_code (2 : Nat) (Option.some (Jvm.ClassFile.FieldType.object "java/lang/String"))).before args0 about1 = true := code_word (m := ⟨1, 2⟩) (meth := k1m2) (c := k1c2) (by decide +kernel) rfl rfl rfl (by decide +kernel)
set_option maxRecDepth 65536 in
theorem w_c2 : (Jvm.Cond.code ({ cls := "java/lang/String", name := "<init>", desc := "([C)V" } : Jvm.MethodName) jdk_42_method_3_code (2 : Nat) (Option.none : Option Jvm.ClassFile.FieldType)).before args0 about1 = true := code_word (m := ⟨7, 1⟩) (meth := k7m1) (c := k7c1) (by decide +kernel) rfl rfl rfl (by decide +kernel)
set_option maxRecDepth 65536 in
theorem w_c3 : (Jvm.Cond.code ({ cls := "java/lang/String", name := "<init>", desc := "([CIILjava/lang/Void;)V" } : Jvm.MethodName) jdk_42_method_149_code (6 : Nat) (Option.none : Option Jvm.ClassFile.FieldType)).before args0 about1 = true := code_word (m := ⟨7, 3⟩) (meth := k7m3) (c := k7c3) (by decide +kernel) rfl rfl rfl (by decide +kernel)
set_option maxRecDepth 65536 in
theorem w_c4 : (Jvm.Cond.code ({ cls := "java/lang/Object", name := "<init>", desc := "()V" } : Jvm.MethodName) object_method_1_code (1 : Nat) (Option.none : Option Jvm.ClassFile.FieldType)).before args0 about1 = true := code_word (m := ⟨0, 0⟩) (meth := k0m0) (c := k0c0) (by decide +kernel) rfl rfl rfl (by decide +kernel)
set_option maxRecDepth 65536 in
theorem w_c5 : (Jvm.Cond.code ({ cls := "java/lang/StringUTF16", name := "compress", desc := "([CII)[B" } : Jvm.MethodName) jdk_52_method_16_code (6 : Nat) (Option.some (Jvm.ClassFile.FieldType.array Jvm.ClassFile.FieldType.byte))).before args0 about1 = true := code_word (m := ⟨8, 2⟩) (meth := k8m2) (c := k8c2) (by decide +kernel) rfl rfl rfl (by decide +kernel)
set_option maxRecDepth 65536 in
theorem w_c6 : (Jvm.Cond.code ({ cls := "java/lang/StringUTF16", name := "compress", desc := "([CI[BII)I" } : Jvm.MethodName) jdk_52_method_21_code (7 : Nat) (Option.some Jvm.ClassFile.FieldType.int)).before args0 about1 = true := code_word (m := ⟨8, 3⟩) (meth := k8m3) (c := k8c3) (by decide +kernel) rfl rfl rfl (by decide +kernel)
set_option maxRecDepth 65536 in
theorem w_c7 : (Jvm.Cond.code ({ cls := "java/lang/StringUTF16", name := "coderFromArrayLen", desc := "([BI)B" } : Jvm.MethodName) jdk_52_method_15_code (2 : Nat) (Option.some Jvm.ClassFile.FieldType.byte)).before args0 about1 = true := code_word (m := ⟨8, 1⟩) (meth := k8m1) (c := k8c1) (by decide +kernel) rfl rfl rfl (by decide +kernel)
set_option maxRecDepth 65536 in
theorem w_c8 : (Jvm.Cond.code ({ cls := "com/example/payspread/payspread/io/PaymentsFile$Format", name := "named", desc := "(Ljava/lang/String;)Lcom/example/payspread/payspread/io/PaymentsFile$Format;" } : Jvm.MethodName) prog_25_method_5_code (5 : Nat) (Option.some (Jvm.ClassFile.FieldType.object "com/example/payspread/payspread/io/PaymentsFile$Format"))).before args0 about1 = true := code_word (m := ⟨10, 2⟩) (meth := k10m2) (c := k10c2) (by decide +kernel) rfl rfl rfl (by decide +kernel)
set_option maxRecDepth 65536 in
theorem w_c9 : (Jvm.Cond.code ({ cls := "com/example/payspread/payspread/io/PaymentsFile$Format", name := "values", desc := "()[Lcom/example/payspread/payspread/io/PaymentsFile$Format;" } : Jvm.MethodName) prog_25_method_1_code (0 : Nat) (Option.some (Jvm.ClassFile.FieldType.array (Jvm.ClassFile.FieldType.object "com/example/payspread/payspread/io/PaymentsFile$Format")))).before args0 about1 = true := code_word (m := ⟨10, 0⟩) (meth := k10m0) (c := k10c0) (by decide +kernel) rfl rfl rfl (by decide +kernel)
set_option maxRecDepth 65536 in
theorem w_c10 : (Jvm.Cond.code ({ cls := "java/lang/String", name := "equals", desc := "(Ljava/lang/Object;)Z" } : Jvm.MethodName) jdk_42_method_66_code (3 : Nat) (Option.some Jvm.ClassFile.FieldType.boolean)).before args0 about1 = true := code_word (m := ⟨7, 2⟩) (meth := k7m2) (c := k7c2) (by decide +kernel) rfl rfl rfl (by decide +kernel)
set_option maxRecDepth 65536 in
theorem w_c11 : (Jvm.Cond.code ({ cls := "java/lang/StringLatin1", name := "equals", desc := "([B[B)Z" } : Jvm.MethodName) jdk_43_method_13_code (3 : Nat) (Option.some Jvm.ClassFile.FieldType.boolean)).before args0 about1 = true := code_word (m := ⟨12, 1⟩) (meth := k12m1) (c := k12c1) (by decide +kernel) rfl rfl rfl (by decide +kernel)
set_option maxRecDepth 65536 in
theorem w_c12 : (Jvm.Cond.code ({ cls := "com/example/payspread/payspread/io/PaymentsFile$Format", name := "formatName", desc := "()Ljava/lang/String;" } : Jvm.MethodName) prog_25_method_4_code (1 : Nat) (Option.some (Jvm.ClassFile.FieldType.object "java/lang/String"))).before args0 about1 = true := code_word (m := ⟨10, 1⟩) (meth := k10m1) (c := k10c1) (by decide +kernel) rfl rfl rfl (by decide +kernel)
def codes1 : List Jvm.Cond := [Jvm.Cond.code x code maxLocals ret, Jvm.Cond.code ({ cls := "com/example/payspread/payspread/io/FormatNamedPinLaw", name := "str", desc := "(I[C)Ljava/lang/String;" } : Jvm.MethodName) method_3_code (2 : Nat) (Option.some (Jvm.ClassFile.FieldType.object "java/lang/String")), Jvm.Cond.code ({ cls := "java/lang/String", name := "<init>", desc := "([C)V" } : Jvm.MethodName) jdk_42_method_3_code (2 : Nat) (Option.none : Option Jvm.ClassFile.FieldType), Jvm.Cond.code ({ cls := "java/lang/String", name := "<init>", desc := "([CIILjava/lang/Void;)V" } : Jvm.MethodName) jdk_42_method_149_code (6 : Nat) (Option.none : Option Jvm.ClassFile.FieldType), Jvm.Cond.code ({ cls := "java/lang/Object", name := "<init>", desc := "()V" } : Jvm.MethodName) object_method_1_code (1 : Nat) (Option.none : Option Jvm.ClassFile.FieldType), Jvm.Cond.code ({ cls := "java/lang/StringUTF16", name := "compress", desc := "([CII)[B" } : Jvm.MethodName) jdk_52_method_16_code (6 : Nat) (Option.some (Jvm.ClassFile.FieldType.array Jvm.ClassFile.FieldType.byte)), Jvm.Cond.code ({ cls := "java/lang/StringUTF16", name := "compress", desc := "([CI[BII)I" } : Jvm.MethodName) jdk_52_method_21_code (7 : Nat) (Option.some Jvm.ClassFile.FieldType.int), Jvm.Cond.code ({ cls := "java/lang/StringUTF16", name := "coderFromArrayLen", desc := "([BI)B" } : Jvm.MethodName) jdk_52_method_15_code (2 : Nat) (Option.some Jvm.ClassFile.FieldType.byte), Jvm.Cond.code ({ cls := "com/example/payspread/payspread/io/PaymentsFile$Format", name := "named", desc := "(Ljava/lang/String;)Lcom/example/payspread/payspread/io/PaymentsFile$Format;" } : Jvm.MethodName) prog_25_method_5_code (5 : Nat) (Option.some (Jvm.ClassFile.FieldType.object "com/example/payspread/payspread/io/PaymentsFile$Format")), Jvm.Cond.code ({ cls := "com/example/payspread/payspread/io/PaymentsFile$Format", name := "values", desc := "()[Lcom/example/payspread/payspread/io/PaymentsFile$Format;" } : Jvm.MethodName) prog_25_method_1_code (0 : Nat) (Option.some (Jvm.ClassFile.FieldType.array (Jvm.ClassFile.FieldType.object "com/example/payspread/payspread/io/PaymentsFile$Format"))), Jvm.Cond.code ({ cls := "java/lang/String", name := "equals", desc := "(Ljava/lang/Object;)Z" } : Jvm.MethodName) jdk_42_method_66_code (3 : Nat) (Option.some Jvm.ClassFile.FieldType.boolean), Jvm.Cond.code ({ cls := "java/lang/StringLatin1", name := "equals", desc := "([B[B)Z" } : Jvm.MethodName) jdk_43_method_13_code (3 : Nat) (Option.some Jvm.ClassFile.FieldType.boolean), Jvm.Cond.code ({ cls := "com/example/payspread/payspread/io/PaymentsFile$Format", name := "formatName", desc := "()Ljava/lang/String;" } : Jvm.MethodName) prog_25_method_4_code (1 : Nat) (Option.some (Jvm.ClassFile.FieldType.object "java/lang/String"))]
set_option maxRecDepth 65536 in
theorem codes_eq : words1.filter isCode = codes1 := rfl
theorem w_codes : ∀ c ∈ words1.filter isCode, c.before args0 about1 = true := by
  rw [codes_eq]
  intro c hc
  simp only [codes1, List.mem_cons, List.not_mem_nil, or_false] at hc
  rcases hc with rfl | rfl | rfl | rfl | rfl | rfl | rfl | rfl | rfl | rfl | rfl | rfl | rfl
  · exact w_c0
  · exact w_c1
  · exact w_c2
  · exact w_c3
  · exact w_c4
  · exact w_c5
  · exact w_c6
  · exact w_c7
  · exact w_c8
  · exact w_c9
  · exact w_c10
  · exact w_c11
  · exact w_c12
set_option maxRecDepth 65536 in
theorem w_t1 : (words1.take 24).all (fun c => isCode c || c.before args0 about1) = true := by decide +kernel
set_option maxRecDepth 65536 in
theorem w_t2 : ((words1.drop 24).take 24).all (fun c => isCode c || c.before args0 about1) = true := by decide +kernel
set_option maxRecDepth 65536 in
theorem w_t3 : (((words1.drop 24).drop 24).take 24).all (fun c => isCode c || c.before args0 about1) = true := by decide +kernel
set_option maxRecDepth 65536 in
theorem w_t4 : (((words1.drop 24).drop 24).drop 24).all (fun c => isCode c || c.before args0 about1) = true := by decide +kernel
theorem w_tables : (allAtoms (Jvm.Cond.code x code maxLocals ret :: tables_1)).before args0 about1 = true := by
  rw [allAtoms_all]
  show words1.all (fun c => c.before args0 about1) = true
  refine all_split ?_ w_codes
  rw [← List.take_append_drop 24 words1, List.all_append, w_t1, ← List.take_append_drop 24 (words1.drop 24), List.all_append, w_t2, ← List.take_append_drop 24 ((words1.drop 24).drop 24), List.all_append, w_t3, w_t4]
  rfl
set_option maxRecDepth 65536 in
theorem w_rest : rest_1_c.before args0 about1 = true := by decide +kernel
set_option maxRecDepth 65536 in
theorem w_case : (Jvm.Cond.and given_1 narrow_1).before args0 about1 = true := by decide +kernel
set_option maxRecDepth 65536 in
theorem w_consts : constsHeld consts_1 about1 := Jvm.Lit.constsHeldB_iff.mp (by decide +kernel)
theorem w_applies : (headSpec (Jvm.Cond.code x code maxLocals ret :: tables_1) room_1).applies x e0.platform about1 = true :=
  (Spec.applies_iff w_frames).mpr ⟨w_running, w_runnable, w_alone, w_named, w_hears, w_ripe, w_room, w_tables⟩
theorem atStart : AtStart classFile x code maxLocals ret World_1 tables_1 room_1 Calls_1 rest_1 Pre_1 launch0 p0 e0 about1 theMethod args0 below0 :=
  ⟨lists_1, trivial, launch0.admits_env _ _ _, launch0.least_env, fairChoices_fair.cas, fairChoices_fair.clock, w_frames, w_args, w_heap, w_applies, ⟨w_consts, trivial⟩, w_rest, w_case⟩
end start1
theorem witness_1 : WitnessClaimed_1 := ⟨start1.p0, start1.e0, start1.about1, start1.theMethod, start1.args0, start1.below0, start1.atStart⟩
end Jvm.Pilot.@@N@@

import JvmDerived
import JvmDerived.Pilot.@@N@@Statement
import JvmDerived.Pilot.@@N@@Code
set_option linter.unusedVariables false
set_option linter.unusedSimpArgs false
@@BLOCK:NumsL.lean.txt@@
namespace Jvm.RoadKit
open Sem ClassFile Op Lib Jvm.Stand Jvm.Free Jvm.LawKit
section New
variable {p : Program} {l : Launch} {e : Env} {R : Room} {s : State} {m : MethodId} {args : Array Value} {below : List Frame} {meth : Method} {c : Code} {T : State} {locs : List Loc} {cells slots : Nat}
theorem retI (X : Stand p l e R s m args below meth c T locs cells slots) (hx : p.tables.exec = Jvm.exec) {pc : Nat} {Ls : Array Slot} {z : Int32} {rest : List Value} (hret : meth.sig.returnType = some .int) (hd : decode c.code pc = .ok (.ireturn, 1)) {fs : List Frame}
    (hl : ∀ (f : JFrame) (acts : List Action), f.method = m → f.locked = none → f.entered = [] → (doReturn e (T.setTop f) acts (some (.int z))).1 = T.setFrames fs) : Steps p.tables e below (T.setTop (mkF m pc Ls (.int z :: rest))) (T.setFrames fs) := by
  have hm' : T.vm.method? m = some meth := X.method'
  have hn : narrow .int (.int z) = .int z := rfl
  show Steps p.tables e below (T.setTop { method := m, pc := pc, locals := Ls, stack := _ :: rest, locked := none }) _
  jvm_step X.here [X.here.top, hx, hd, hm', hret, hn]
  first | (intro acts; rw [hl _ acts rfl rfl rfl]) | rw [hl _ _ rfl rfl rfl]
  exact Steps.refl _
end New
end Jvm.RoadKit
/- laws to paste: Road.backV, Road.eqW, Road.codOf (cut by pick.py; bodies as the Statement names them) -/
namespace Jvm.Pilot.@@N@@
namespace StrChars
open Jvm Sem ClassFile Op Lib Jvm.Stand Jvm.Free.XT Jvm.Free.ALB Jvm.Free.JM Jvm.Free
open Jvm.Lib.Cold (StaticIs)
/-- a char array whose places are chars -/
def Ch (a : Addr) (A : Cell) (U : State) : Prop := Arr .char a A U ∧ Typed .char A
theorem Ch.mv {a : Addr} {A : Cell} {U U' : State} (h : Ch a A U) (hal : U.vm.Alike U'.vm) (hh : U'.heap = U.heap) : Ch a A U' := ⟨h.1.mv hal hh, h.2⟩
theorem Ch.keep {a : Addr} {A : Cell} {U U' : State} (h : Ch a A U) (hal : U.vm.Alike U'.vm) (hk : U'.heap[a]? = some A) : Ch a A U' := ⟨h.1.keep hal hk, h.2⟩
/-- what place i of a char[]'s cell holds -/
def cv (A : Cell) (i : Nat) : Int32 := match A.slots[i]? with | some (.int x) => x | _ => 0
theorem Ch.get {a : Addr} {A : Cell} {U : State} (h : Ch a A U) {i : Nat} (hi : i < A.slots.size) : A.slots[i]? = some (.int (cv A i)) := by
  have e := Array.getElem?_eq_getElem hi
  have f := h.2 i _ e
  unfold cv; rw [e]
  generalize A.slots[i] = v at f
  cases v <;> simp [fits] at f ⊢
/-- the byte that i2b leaves of a char -/
def lo8 (x : Int32) : Int32 := x.toInt8.toInt32
theorem fits_lo8 (y : Int32) : fits .byte (.int (lo8 y)) = true := by
  have h1 := y.toInt8.le_toInt
  have h2 := y.toInt8.toInt_lt
  simp only [lo8, fits, Bool.and_eq_true, decide_eq_true_eq, Int32.le_iff_toInt_le, Int8.toInt_toInt32, show (-128 : Int32).toInt = -128 from by decide, show (127 : Int32).toInt = 127 from by decide]
  omega
/-- A' is A but that each place j of lo .. hi - 1 holds f j -/
def Laid (A A' : Cell) (lo hi : Nat) (f : Nat → Value) : Prop := A'.cls = A.cls ∧ A'.vm = A.vm ∧ A'.slots.size = A.slots.size ∧ ∀ i, A'.slots[i]? = if lo ≤ i ∧ i < hi then some (f i) else A.slots[i]?
theorem Laid.zero (A : Cell) (lo : Nat) (f : Nat → Value) : Laid A A lo (lo + 0) f := ⟨rfl, rfl, rfl, fun i => by rw [if_neg (by omega)]⟩
theorem Laid.step {A Ak : Cell} {lo k : Nat} {f : Nat → Value} {v : Value} (h : Laid A Ak lo k f) (hlo : lo ≤ k) (hk : k < Ak.slots.size) (hv : v = f k) : Laid A (Ak.setSlot k v) lo (k + 1) f := by
  refine ⟨h.1, h.2.1, by simpa [Cell.setSlot] using h.2.2.1, fun i => ?_⟩
  by_cases e : k = i
  · subst e; rw [Cell.slots_setSlot_self v hk, if_pos (by omega), hv]
  · rw [Cell.slots_setSlot_ne v e, h.2.2.2 i]
    by_cases q : lo ≤ i ∧ i < k
    · rw [if_pos q, if_pos (by omega)]
    · rw [if_neg q, if_neg (by omega)]
def U16 : String := "java/lang/StringUTF16"
namespace Cmp5
def yN : MethodName := ⟨"java/lang/StringUTF16", "compress", "([CI[BII)I"⟩
abbrev yB : ByteArray := jdk_52_method_21_code
theorem d0 : decode yB 0 = .ok (.iconst 0, 1) := by decide +kernel
theorem d1 : decode yB 1 = .ok (.istore 5, 2) := by decide +kernel
theorem d3 : decode yB 3 = .ok (.iload 5, 2) := by decide +kernel
theorem d5 : decode yB 5 = .ok (.iload 4, 2) := by decide +kernel
theorem d7 : decode yB 7 = .ok (.if_icmp (.ge) 37, 3) := by decide +kernel
theorem d10 : decode yB 10 = .ok (.aload_n 0, 1) := by decide +kernel
theorem d11 : decode yB 11 = .ok (.iload_n 1, 1) := by decide +kernel
theorem d12 : decode yB 12 = .ok (.caload, 1) := by decide +kernel
theorem d13 : decode yB 13 = .ok (.istore 6, 2) := by decide +kernel
theorem d15 : decode yB 15 = .ok (.iload 6, 2) := by decide +kernel
theorem d17 : decode yB 17 = .ok (.sipush 255, 3) := by decide +kernel
theorem d20 : decode yB 20 = .ok (.if_icmp (.le) 6, 3) := by decide +kernel
theorem d26 : decode yB 26 = .ok (.aload_n 2, 1) := by decide +kernel
theorem d27 : decode yB 27 = .ok (.iload_n 3, 1) := by decide +kernel
theorem d28 : decode yB 28 = .ok (.iload 6, 2) := by decide +kernel
theorem d30 : decode yB 30 = .ok (.i2b, 1) := by decide +kernel
theorem d31 : decode yB 31 = .ok (.bastore, 1) := by decide +kernel
theorem d32 : decode yB 32 = .ok (.iinc 1 1, 3) := by decide +kernel
theorem d35 : decode yB 35 = .ok (.iinc 3 1, 3) := by decide +kernel
theorem d38 : decode yB 38 = .ok (.iinc 5 1, 3) := by decide +kernel
theorem d41 : decode yB 41 = .ok (.goto (-38), 3) := by decide +kernel
theorem d44 : decode yB 44 = .ok (.iload 4, 2) := by decide +kernel
theorem d46 : decode yB 46 = .ok (.ireturn, 1) := by decide +kernel
def site : List Cond := []
def tab : Cond := tabOf yN yB 7 (some .int) site
def P (b : Addr) (A : Cell) (d : Addr) (B : Cell) (o q len : Nat) (args : Array Value) (s : State) : Prop := args = #[.ref b, .int (Int32.ofNat o), .ref d, .int (Int32.ofNat q), .int (Int32.ofNat len)] ∧ Ch b A s ∧ Arr .byte d B s ∧ b ≠ d ∧ o + len ≤ A.slots.size ∧ q + len ≤ B.slots.size ∧ ∀ i, i < len → ¬ 255 < cv A (o + i)
def E (b : Addr) (A : Cell) (d : Addr) (B : Cell) (o q len : Nat) (r : Option Value) (s u : State) : Prop := r = some (.int (Int32.ofNat len)) ∧ ∃ B', Put d B' s u ∧ Laid B B' q (q + len) (fun j => Value.int (lo8 (cv A (o + (j - q)))))
/-- no char of the range above 255: len; the places written hold each char's low byte -/
theorem law (l : Launch) (b : Addr) (A : Cell) (d : Addr) (B : Cell) (o q len : Nat) : Law l yN 5 5 0 0 yB 7 (some .int) site (P b A d B o q len) (E b A d B o q len) (copyLocs d q len) 0 0 := by
  refine Law.of_walk (plainFor_of_name (by decide +kernel)) (by decide +kernel) (by decide +kernel) (by decide) (fun _ _ h => by rw [h.1]; rfl) (fun _ U U' hal hh h => ⟨h.1, h.2.1.mv hal hh, h.2.2.1.mv hal hh, h.2.2.2⟩) (fun r U U' V V' h1 hal h2 h => ⟨h.1, h.2.elim fun B' q => ⟨B', q.1.mv h1 h2, q.2⟩⟩) ?_
  intro p e s m args below meth c s₁ X0 hexec hbytes hml hret hlk hnm hown hh0 W hP
  obtain ⟨rfl, hA, hB, hne, l1, l2, hp⟩ := hP
  have c1 : Steps p.tables e below (s₁.setTop (entryFrame m #[.ref b, .int (Int32.ofNat o), .ref d, .int (Int32.ofNat q), .int (Int32.ofNat len)] 7)) (s₁.setTop (mkF m 0 #[.val (.ref b), .val (.int (Int32.ofNat o)), .val (.ref d), .val (.int (Int32.ofNat q)), .val (.int (Int32.ofNat len)), .unset, .unset] [])) := entry rfl
  have hA0 := hA.1.mv X0.warmed.alike hh0
  have hB0 := hB.mv X0.warmed.alike hh0
  have a31 := hA.1.2.2.2
  have c2 : Steps p.tables e below (s₁.setTop (entryFrame m #[.ref b, .int (Int32.ofNat o), .ref d, .int (Int32.ofNat q), .int (Int32.ofNat len)] 7)) (s₁.setTop (mkF m 3 #[.val (.ref b), .val (.int (Int32.ofNat o)), .val (.ref d), .val (.int (Int32.ofNat q)), .val (.int (Int32.ofNat len)), .val (.int 0), .unset] [])) := c1.trans (by
    refine iconstV X0.here hexec rfl 0 (hb hbytes d0) (by decide) ?_
    refine XS.istore X0.here hexec rfl (hb hbytes d1) rfl rfl ?_
    exact Steps.refl _)
  have loop : ∀ (r i : Nat), i + r = len → ∀ (z : Slot), (z = .unset ∨ ∃ w, z = .val w ∧ w.category = 1) → ∀ (Tl : State) (Bk : Cell), Stand p l e { frames := 0, locals := 0, cells := 0, slots := 0 } s m #[.ref b, .int (Int32.ofNat o), .ref d, .int (Int32.ofNat q), .int (Int32.ofNat len)] below meth c Tl ([] ++ copyLocs d q i) 0 0 → Put d Bk s₁ Tl → Laid B Bk q (q + i) (fun j => Value.int (lo8 (cv A (o + (j - q))))) →
      Steps p.tables e below (s₁.setTop (entryFrame m #[.ref b, .int (Int32.ofNat o), .ref d, .int (Int32.ofNat q), .int (Int32.ofNat len)] 7)) (Tl.setTop (mkF m 3 #[.val (.ref b), .val (.int (Int32.ofNat (o + i))), .val (.ref d), .val (.int (Int32.ofNat (q + i))), .val (.int (Int32.ofNat len)), .val (.int (Int32.ofNat i)), z] [])) → ∃ (T' : State) (B' : Cell) (z' : Slot), Stand p l e { frames := 0, locals := 0, cells := 0, slots := 0 } s m #[.ref b, .int (Int32.ofNat o), .ref d, .int (Int32.ofNat q), .int (Int32.ofNat len)] below meth c T' ([] ++ copyLocs d q len) 0 0 ∧ Put d B' s₁ T' ∧ Laid B B' q (q + len) (fun j => Value.int (lo8 (cv A (o + (j - q))))) ∧
      Steps p.tables e below (s₁.setTop (entryFrame m #[.ref b, .int (Int32.ofNat o), .ref d, .int (Int32.ofNat q), .int (Int32.ofNat len)] 7)) (T'.setTop (mkF m 3 #[.val (.ref b), .val (.int (Int32.ofNat (o + len))), .val (.ref d), .val (.int (Int32.ofNat (q + len))), .val (.int (Int32.ofNat len)), .val (.int (Int32.ofNat len)), z'] [])) := by
    intro r
    induction r with
    | zero =>
      intro i hi z hz Tl Bk Xl pl fl cl
      have hil : i = len := by omega
      rw [hil] at Xl fl cl
      exact ⟨Tl, Bk, z, Xl, pl, fl, cl⟩
    | succ r ih =>
      intro i hi z hz Tl Bk Xl pl fl cl
      have all := X0.warmed.alike.symm.trans Xl.warmed.alike
      have hAl := hA0.keep all (pl.other hne hA0.1)
      have hBk := hB0.like all pl.1 fl.1 fl.2.1 fl.2.2.1
      have hlt : q + i < Bk.slots.size := by rw [fl.2.2.1]; omega
      have c3 : Steps p.tables e below (s₁.setTop (entryFrame m #[.ref b, .int (Int32.ofNat o), .ref d, .int (Int32.ofNat q), .int (Int32.ofNat len)] 7)) (Tl.setTop (mkF m 12 #[.val (.ref b), .val (.int (Int32.ofNat (o + i))), .val (.ref d), .val (.int (Int32.ofNat (q + i))), .val (.int (Int32.ofNat len)), .val (.int (Int32.ofNat i)), z] [.int (Int32.ofNat (o + i)), .ref b])) := cl.trans (by
        refine XS.iload Xl.here hexec rfl (hb hbytes d3) rfl ?_
        refine XS.iload Xl.here hexec rfl (hb hbytes d5) rfl ?_
        refine XS.icmpNo Xl.here hexec rfl (hb hbytes d7) rfl (ii_ge_f (lt32 (by omega) (by omega))) ?_
        refine XS.aloadN Xl.here hexec rfl (hb hbytes d10) rfl rfl ?_
        refine XS.iloadN Xl.here hexec rfl (hb hbytes d11) rfl ?_
        exact Steps.refl _)
      have c4 : Steps p.tables e below (s₁.setTop (entryFrame m #[.ref b, .int (Int32.ofNat o), .ref d, .int (Int32.ofNat q), .int (Int32.ofNat len)] 7)) (Tl.setTop (mkF m 13 #[.val (.ref b), .val (.int (Int32.ofNat (o + i))), .val (.ref d), .val (.int (Int32.ofNat (q + i))), .val (.int (Int32.ofNat len)), .val (.int (Int32.ofNat i)), z] [.int (cv A (o + i))])) := c3.trans (by
        refine Xl.aget hexec hAl rfl (hA.get (i := o + i) (by omega)) rfl rfl (hb hbytes d12) ?_
        exact Steps.refl _)
      have c5 : Steps p.tables e below (s₁.setTop (entryFrame m #[.ref b, .int (Int32.ofNat o), .ref d, .int (Int32.ofNat q), .int (Int32.ofNat len)] 7)) (Tl.setTop (mkF m 15 #[.val (.ref b), .val (.int (Int32.ofNat (o + i))), .val (.ref d), .val (.int (Int32.ofNat (q + i))), .val (.int (Int32.ofNat len)), .val (.int (Int32.ofNat i)), .val (.int (cv A (o + i)))] [])) := c4.trans (by
        refine XS.istoreS Xl.here hexec rfl (hb hbytes d13) rfl rfl hz ?_
        exact Steps.refl _)
      have c6 : Steps p.tables e below (s₁.setTop (entryFrame m #[.ref b, .int (Int32.ofNat o), .ref d, .int (Int32.ofNat q), .int (Int32.ofNat len)] 7)) (Tl.setTop (mkF m 31 #[.val (.ref b), .val (.int (Int32.ofNat (o + i))), .val (.ref d), .val (.int (Int32.ofNat (q + i))), .val (.int (Int32.ofNat len)), .val (.int (Int32.ofNat i)), .val (.int (cv A (o + i)))] [.int (lo8 (cv A (o + i))), .int (Int32.ofNat (q + i)), .ref d])) := c5.trans (by
        refine XS.iload Xl.here hexec rfl (hb hbytes d15) rfl ?_
        refine sipushV Xl.here hexec rfl 255 (hb hbytes d17) (by decide) ?_
        refine XS.icmpYes Xl.here hexec rfl (pc0 := 20) rfl (hb hbytes d20) rfl (ii_le_t (hp i (by omega))) (by decide) rfl ?_
        refine XS.aloadN Xl.here hexec rfl (hb hbytes d26) rfl rfl ?_
        refine XS.iloadN Xl.here hexec rfl (hb hbytes d27) rfl ?_
        refine XS.iload Xl.here hexec rfl (hb hbytes d28) rfl ?_
        refine i2b Xl.here hexec rfl (hb hbytes d30) rfl ?_
        exact Steps.refl _)
      obtain ⟨T7, X7, p7, st7⟩ := Xl.aput hexec hBk rfl hlt rfl (fits_lo8 (cv A (o + i))) (g := (mkF m 31 #[.val (.ref b), .val (.int (Int32.ofNat (o + i))), .val (.ref d), .val (.int (Int32.ofNat (q + i))), .val (.int (Int32.ofNat len)), .val (.int (Int32.ofNat i)), .val (.int (cv A (o + i)))] [.int (lo8 (cv A (o + i))), .int (Int32.ofNat (q + i)), .ref d])) rfl (rest := []) rfl (hb hbytes d31)
      have c8 : Steps p.tables e below (s₁.setTop (entryFrame m #[.ref b, .int (Int32.ofNat o), .ref d, .int (Int32.ofNat q), .int (Int32.ofNat len)] 7)) (T7.setTop (mkF m 32 #[.val (.ref b), .val (.int (Int32.ofNat (o + i))), .val (.ref d), .val (.int (Int32.ofNat (q + i))), .val (.int (Int32.ofNat len)), .val (.int (Int32.ofNat i)), .val (.int (cv A (o + i)))] [])) := c6.trans (st7 _ (Steps.refl _))
      have c9 : Steps p.tables e below (s₁.setTop (entryFrame m #[.ref b, .int (Int32.ofNat o), .ref d, .int (Int32.ofNat q), .int (Int32.ofNat len)] 7)) (T7.setTop (mkF m 3 #[.val (.ref b), .val (.int (Int32.ofNat (o + i) + 1)), .val (.ref d), .val (.int (Int32.ofNat (q + i) + 1)), .val (.int (Int32.ofNat len)), .val (.int (Int32.ofNat i + 1)), .val (.int (cv A (o + i)))] [])) := c8.trans (by
        refine iincV X7.here hexec rfl 1 (hb hbytes d32) (by decide) rfl rfl ?_
        refine iincV X7.here hexec rfl 1 (hb hbytes d35) (by decide) rfl rfl ?_
        refine iincV X7.here hexec rfl 1 (hb hbytes d38) (by decide) rfl rfl ?_
        refine XS.goto X7.here hexec rfl (pc0 := 41) rfl (hb hbytes d41) (by decide) rfl ?_
        exact Steps.refl _)
      have c10 : Steps p.tables e below (s₁.setTop (entryFrame m #[.ref b, .int (Int32.ofNat o), .ref d, .int (Int32.ofNat q), .int (Int32.ofNat len)] 7)) (T7.setTop (mkF m 3 #[.val (.ref b), .val (.int (Int32.ofNat (o + (i + 1)))), .val (.ref d), .val (.int (Int32.ofNat (q + (i + 1)))), .val (.int (Int32.ofNat len)), .val (.int (Int32.ofNat (i + 1))), .val (.int (cv A (o + i)))] [])) := by
        have := c9
        rw [succ32, succ32, succ32] at this
        exact this
      exact ih (i + 1) (by omega) _ (Or.inr ⟨_, rfl, rfl⟩) T7 _ (by rw [copyLocs_step, ← List.append_assoc]; exact X7) (pl.trans p7) (fl.step (by omega) hlt (by simp)) c10
  obtain ⟨T9, B9, z9, X9, p9, f9, g9⟩ := loop len 0 (by omega) .unset (Or.inl rfl) s₁ B (by simpa [copyLocs] using X0) ⟨hB0.1, fun _ _ => rfl, rfl⟩ (Laid.zero _ _ _) c2
  have c11 : Steps p.tables e below (s₁.setTop (entryFrame m #[.ref b, .int (Int32.ofNat o), .ref d, .int (Int32.ofNat q), .int (Int32.ofNat len)] 7)) (T9.setTop (mkF m 46 #[.val (.ref b), .val (.int (Int32.ofNat (o + len))), .val (.ref d), .val (.int (Int32.ofNat (q + len))), .val (.int (Int32.ofNat len)), .val (.int (Int32.ofNat len)), z9] [.int (Int32.ofNat len)])) := g9.trans (by
    refine XS.iload X9.here hexec rfl (hb hbytes d3) rfl ?_
    refine XS.iload X9.here hexec rfl (hb hbytes d5) rfl ?_
    refine XS.icmpYes X9.here hexec rfl (pc0 := 7) rfl (hb hbytes d7) rfl (ii_ge_t (nlt32 (by omega) (Nat.le_refl _))) (by decide) rfl ?_
    refine XS.iload X9.here hexec rfl (hb hbytes d44) rfl ?_
    exact Steps.refl _)
  exact ⟨T9, some (.int (Int32.ofNat len)), _, _, _, X9, by simp, rfl, rfl, (fun h => by cases h), ⟨rfl, B9, p9.from hh0, f9⟩, fun fs hl => c11.trans (X9.ireturnOut hexec hret rfl (Or.inl rfl) (hb hbytes d46) hl)⟩
end Cmp5
namespace Cmp3
def yN : MethodName := ⟨"java/lang/StringUTF16", "compress", "([CII)[B"⟩
abbrev yB : ByteArray := jdk_52_method_16_code
theorem d0 : decode yB 0 = .ok (.iload_n 2, 1) := by decide +kernel
theorem d1 : decode yB 1 = .ok (.newarray .byte, 2) := by decide +kernel
theorem d3 : decode yB 3 = .ok (.astore_n 3, 1) := by decide +kernel
theorem d4 : decode yB 4 = .ok (.aload_n 0, 1) := by decide +kernel
theorem d5 : decode yB 5 = .ok (.iload_n 1, 1) := by decide +kernel
theorem d6 : decode yB 6 = .ok (.aload_n 3, 1) := by decide +kernel
theorem d7 : decode yB 7 = .ok (.iconst 0, 1) := by decide +kernel
theorem d8 : decode yB 8 = .ok (.iload_n 2, 1) := by decide +kernel
theorem d9 : decode yB 9 = .ok (.invokestatic 115, 3) := by decide +kernel
theorem d12 : decode yB 12 = .ok (.istore 4, 2) := by decide +kernel
theorem d14 : decode yB 14 = .ok (.iload 4, 2) := by decide +kernel
theorem d16 : decode yB 16 = .ok (.iload_n 2, 1) := by decide +kernel
theorem d17 : decode yB 17 = .ok (.if_icmp (.eq) 40, 3) := by decide +kernel
theorem d57 : decode yB 57 = .ok (.aload_n 3, 1) := by decide +kernel
theorem d58 : decode yB 58 = .ok (.areturn, 1) := by decide +kernel
def site : List Cond := [.arrayClass .byte, Cmp5.tab] ++ staticW U16 115 Cmp5.yN
def tab : Cond := tabOf yN yB 6 (some (.array .byte)) site
def P (b : Addr) (A : Cell) (o len : Nat) (args : Array Value) (s : State) : Prop := args = #[.ref b, .int (Int32.ofNat o), .int (Int32.ofNat len)] ∧ Ch b A s ∧ o + len ≤ A.slots.size ∧ len ≤ 536870912 ∧ ∀ i, i < len → ¬ 255 < cv A (o + i)
def E (b : Addr) (A : Cell) (o len : Nat) (r : Option Value) (s u : State) : Prop := NewArr .byte "[B" len (fun j => .int (lo8 (cv A (o + j)))) r s u ∧ u.heap.size = s.heap.size + 1
/-- no char of the range above 255: a new byte[] of their low bytes -/
theorem law (l : Launch) (b : Addr) (A : Cell) (o len : Nat) : Law l yN 3 3 1 18 yB 6 (some (.array .byte)) site (P b A o len) (E b A o len) [] 1 len := by
  refine Law.of_walk (plainFor_of_name (by decide +kernel)) (by decide +kernel) (by decide +kernel) (by decide) (fun _ _ h => by rw [h.1]; rfl) (fun _ U U' hal hh h => ⟨h.1, h.2.1.mv hal hh, h.2.2⟩) (fun r U U' V V' h1 hal h2 h => ⟨NewArr.mv r U U' V V' h1 hal h2 h.1, by rw [h1, h2]; exact h.2⟩) ?_
  intro p e s m args below meth c s₁ X0 hexec hbytes hml hret hlk hnm hown hh0 W hP
  obtain ⟨rfl, hA, l1, l2, hp⟩ := hP
  have a31 := hA.1.2.2.2
  have c1 : Steps p.tables e below (s₁.setTop (entryFrame m #[.ref b, .int (Int32.ofNat o), .int (Int32.ofNat len)] 6)) (s₁.setTop (mkF m 0 #[.val (.ref b), .val (.int (Int32.ofNat o)), .val (.int (Int32.ofNat len)), .unset, .unset, .unset] [])) := entry rfl
  have c2 : Steps p.tables e below (s₁.setTop (entryFrame m #[.ref b, .int (Int32.ofNat o), .int (Int32.ofNat len)] 6)) (s₁.setTop (mkF m 1 #[.val (.ref b), .val (.int (Int32.ofNat o)), .val (.int (Int32.ofNat len)), .unset, .unset, .unset] [.int (Int32.ofNat len)])) := c1.trans (by
    refine XS.iloadN X0.here hexec rfl (hb hbytes d0) rfl ?_
    exact Steps.refl _)
  obtain ⟨T3, B3, X3, ba3, bs3, bv3, bh3, bf3, st3⟩ := X0.anew hexec (atype := .byte) (wk W (.arrayClass .byte)) rfl (by show len * 1 ≤ _; omega) (by omega) (g := (mkF m 1 #[.val (.ref b), .val (.int (Int32.ofNat o)), .val (.int (Int32.ofNat len)), .unset, .unset, .unset] [.int (Int32.ofNat len)])) rfl (hb hbytes d1) (rest := []) rfl (Nat.le_refl _) (by show 0 + len ≤ len; omega)
  rw [hh0] at ba3 st3
  have kp3 : XT.Kept s T3 := (XT.Kept.of_eq hh0).push bh3
  have hA3 := hA.keep X3.warmed.alike (kp3 _ _ hA.1.1)
  have hne : b ≠ s.heap.size := hA.1.ne
  have c4 : Steps p.tables e below (s₁.setTop (entryFrame m #[.ref b, .int (Int32.ofNat o), .int (Int32.ofNat len)] 6)) (T3.setTop (mkF m 3 #[.val (.ref b), .val (.int (Int32.ofNat o)), .val (.int (Int32.ofNat len)), .unset, .unset, .unset] [.ref s.heap.size])) := c2.trans (st3 _ (Steps.refl _))
  have c5 : Steps p.tables e below (s₁.setTop (entryFrame m #[.ref b, .int (Int32.ofNat o), .int (Int32.ofNat len)] 6)) (T3.setTop (mkF m 9 #[.val (.ref b), .val (.int (Int32.ofNat o)), .val (.int (Int32.ofNat len)), .val (.ref s.heap.size), .unset, .unset] [.int (Int32.ofNat len), .int 0, .ref s.heap.size, .int (Int32.ofNat o), .ref b])) := c4.trans (by
    refine XS.astoreN X3.here hexec rfl (hb hbytes d3) rfl rfl rfl ?_
    refine XS.aloadN X3.here hexec rfl (hb hbytes d4) rfl rfl ?_
    refine XS.iloadN X3.here hexec rfl (hb hbytes d5) rfl ?_
    refine XS.aloadN X3.here hexec rfl (hb hbytes d6) rfl rfl ?_
    refine iconstV X3.here hexec rfl 0 (hb hbytes d7) (by decide) ?_
    refine XS.iloadN X3.here hexec rfl (hb hbytes d8) rfl ?_
    exact Steps.refl _)
  obtain ⟨v6, T6, X6, E6, g6⟩ := X3.callS hexec (Cmp5.law l b A s.heap.size B3 o 0 len) hown (wks W (staticW U16 115 Cmp5.yN)) (wk W Cmp5.tab) (W := 0) (Nat.le_of_ble_eq_true rfl) (Nat.le_of_ble_eq_true rfl) (Nat.le_refl _) (by show 0 + len + 0 ≤ len; omega) (g := (mkF m 9 #[.val (.ref b), .val (.int (Int32.ofNat o)), .val (.int (Int32.ofNat len)), .val (.ref s.heap.size), .unset, .unset] [.int (Int32.ofNat len), .int (Int32.ofNat 0), .ref s.heap.size, .int (Int32.ofNat o), .ref b])) rfl (by rw [hml]; rfl) c5 (argsL := [.ref b, .int (Int32.ofNat o), .ref s.heap.size, .int (Int32.ofNat 0), .int (Int32.ofNat len)]) (rest := []) rfl rfl (by show 2 * 0 + 0 ≤ _; decide) (hb hbytes d9) (⟨rfl, hA3, ba3, hne, l1, by rw [bs3]; simp, hp⟩)
  obtain ⟨rfl, B6, p6, f6⟩ := E6
  have c7 : Steps p.tables e below (s₁.setTop (entryFrame m #[.ref b, .int (Int32.ofNat o), .int (Int32.ofNat len)] 6)) (T6.setTop (mkF m 12 #[.val (.ref b), .val (.int (Int32.ofNat o)), .val (.int (Int32.ofNat len)), .val (.ref s.heap.size), .unset, .unset] [.int (Int32.ofNat len)])) := g6
  have c8 : Steps p.tables e below (s₁.setTop (entryFrame m #[.ref b, .int (Int32.ofNat o), .int (Int32.ofNat len)] 6)) (T6.setTop (mkF m 58 #[.val (.ref b), .val (.int (Int32.ofNat o)), .val (.int (Int32.ofNat len)), .val (.ref s.heap.size), .val (.int (Int32.ofNat len)), .unset] [.ref s.heap.size])) := c7.trans (by
    refine XS.istore X6.here hexec rfl (hb hbytes d12) rfl rfl ?_
    refine XS.iload X6.here hexec rfl (hb hbytes d14) rfl ?_
    refine XS.iloadN X6.here hexec rfl (hb hbytes d16) rfl ?_
    refine XS.icmpYes X6.here hexec rfl (pc0 := 17) rfl (hb hbytes d17) rfl (ii_eq_t rfl) (by decide) rfl ?_
    refine XS.aloadN X6.here hexec rfl (hb hbytes d57) rfl rfl ?_
    exact Steps.refl _)
  have X8 := X6.wide (L' := []) (cells' := 1) (slots' := len) (fun x hx hlt => by
    simp only [List.nil_append, copyLocs, List.mem_map, List.mem_range] at hx
    obtain ⟨i, -, rfl⟩ := hx
    exact absurd hlt (Nat.lt_irrefl _)) (Nat.le_refl _) (by omega)
  exact ⟨T6, some (.ref s.heap.size), _, _, _, X8, rfl, rfl, rfl, (fun h => by cases h), ⟨⟨rfl, B6, ba3.like (X3.warmed.alike.symm.trans X6.warmed.alike) p6.1 f6.1 f6.2.1 f6.2.2.1, f6.2.1.trans bv3, by rw [X6.warmed.alike.findClass, f6.1]; exact bf3, by rw [f6.2.2.1, bs3]; simp, fun j hj => by rw [f6.2.2.2 j, if_pos (by omega)]; rfl, kp3.put p6 (Nat.le_refl _)⟩, by rw [p6.2.2, bh3, hh0]; simp⟩, fun fs hl => c8.trans (X8.areturnOut hexec rfl hret rfl (hb hbytes d58) hl)⟩
end Cmp3
namespace CodL
def yN : MethodName := ⟨"java/lang/StringUTF16", "coderFromArrayLen", "([BI)B"⟩
abbrev yB : ByteArray := jdk_52_method_15_code
theorem d0 : decode yB 0 = .ok (.iload_n 1, 1) := by decide +kernel
theorem d1 : decode yB 1 = .ok (.aload_n 0, 1) := by decide +kernel
theorem d2 : decode yB 2 = .ok (.arraylength, 1) := by decide +kernel
theorem d3 : decode yB 3 = .ok (.isub, 1) := by decide +kernel
theorem d4 : decode yB 4 = .ok (.bipush 31, 2) := by decide +kernel
theorem d6 : decode yB 6 = .ok (.iushr, 1) := by decide +kernel
theorem d7 : decode yB 7 = .ok (.i2b, 1) := by decide +kernel
theorem d8 : decode yB 8 = .ok (.ireturn, 1) := by decide +kernel
def site : List Cond := []
def tab : Cond := tabOf yN yB 2 (some .byte) site
def P (d : Addr) (B : Cell) (args : Array Value) (s : State) : Prop := args = #[.ref d, .int (Int32.ofNat B.slots.size)] ∧ Arr .byte d B s
def E (r : Option Value) (s u : State) : Prop := XT.PureE (some (.int 0)) r s u
/-- an array as long as the number of chars: LATIN1 -/
theorem law (l : Launch) (d : Addr) (B : Cell) : Law l yN 2 2 0 0 yB 2 (some .byte) site (P d B) E [] 0 0 := by
  refine Law.of_walk (plainFor_of_name (by decide +kernel)) (by decide +kernel) (by decide +kernel) (by decide) (fun _ _ h => by rw [h.1]; rfl) (fun _ U U' hal hh h => ⟨h.1, h.2.mv hal hh⟩) (fun r U U' V V' h1 hal h2 h => XT.PureE.mv r U U' V V' h1 hal h2 h) ?_
  intro p e s m args below meth c s₁ X0 hexec hbytes hml hret hlk hnm hown hh0 W hP
  obtain ⟨rfl, hB⟩ := hP
  have hB0 := hB.mv X0.warmed.alike hh0
  have c1 : Steps p.tables e below (s₁.setTop (entryFrame m #[.ref d, .int (Int32.ofNat B.slots.size)] 2)) (s₁.setTop (mkF m 0 #[.val (.ref d), .val (.int (Int32.ofNat B.slots.size))] [])) := entry rfl
  have c2 : Steps p.tables e below (s₁.setTop (entryFrame m #[.ref d, .int (Int32.ofNat B.slots.size)] 2)) (s₁.setTop (mkF m 2 #[.val (.ref d), .val (.int (Int32.ofNat B.slots.size))] [.ref d, .int (Int32.ofNat B.slots.size)])) := c1.trans (by
    refine XS.iloadN X0.here hexec rfl (hb hbytes d0) rfl ?_
    refine XS.aloadN X0.here hexec rfl (hb hbytes d1) rfl rfl ?_
    exact Steps.refl _)
  have c3 : Steps p.tables e below (s₁.setTop (entryFrame m #[.ref d, .int (Int32.ofNat B.slots.size)] 2)) (s₁.setTop (mkF m 8 #[.val (.ref d), .val (.int (Int32.ofNat B.slots.size))] [.int (lo8 (ushr (Int32.ofNat B.slots.size - Int32.ofNat B.slots.size) 31))])) := c2.trans (by
    refine X0.alen hexec hB0 rfl rfl (hb hbytes d2) ?_
    refine XS.isub X0.here hexec rfl (hb hbytes d3) rfl ?_
    refine bipushV X0.here hexec rfl 31 (hb hbytes d4) (by decide) ?_
    refine iushr X0.here hexec rfl (hb hbytes d6) rfl ?_
    refine i2b X0.here hexec rfl (hb hbytes d7) rfl ?_
    exact Steps.refl _)
  have e0 : lo8 (ushr (Int32.ofNat B.slots.size - Int32.ofNat B.slots.size) 31) = 0 := by rw [Int32.sub_self]; decide
  rw [e0] at c3
  exact ⟨s₁, some (.int 0), _, _, _, X0, rfl, rfl, rfl, (fun h => by cases h), ⟨rfl, hh0⟩, fun fs hl => c3.trans (X0.ireturnOut hexec hret rfl (Or.inr (Or.inr (Or.inl rfl))) (hb hbytes d8) hl)⟩
end CodL
/-- the String at a is Latin-1 over a new byte[] (the heap's one new cell): the low bytes of the len chars of A from o on; every cell but a is kept -/
def Got (a : Addr) (D : Cell) (fV fC : Field) (A : Cell) (o len : Nat) (r : Option Value) (s u : State) : Prop := r = none ∧ ∃ D' V : Cell, Blank "java/lang/String" a D' u ∧ Same D D' [fV.slot, fC.slot] ∧ D'.slots[fV.slot]? = some (.ref s.heap.size) ∧ D'.slots[fC.slot]? = some (.int 0) ∧ Arr .byte s.heap.size V u ∧ V.vm = .none ∧ u.vm.findClass "[B" = some V.cls ∧ V.slots.size = len ∧ (∀ j, j < len → V.slots[j]? = some (.int (lo8 (cv A (o + j))))) ∧ (∀ (y : Addr) (c : Cell), y ≠ a → s.heap[y]? = some c → u.heap[y]? = some c) ∧ u.heap.size = s.heap.size + 1
theorem Got.mv {a : Addr} {D A : Cell} {fV fC : Field} {o len : Nat} : ∀ r (U U' V V' : State), U'.heap = U.heap → V.vm.Alike V'.vm → V'.heap = V.heap → Got a D fV fC A o len r U V → Got a D fV fC A o len r U' V' :=
  fun r U U' V V' h1 hal h2 ⟨e0, D', X, a1, a2, a3, a4, a5, a6, a7, a8, a9, a10, a11⟩ => ⟨e0, D', X, a1.mv hal h2, a2, by rw [h1]; exact a3, a4, by rw [h1]; exact a5.mv hal h2, a6, by rw [hal.findClass]; exact a7, a8, a9, by rw [h1, h2]; exact a10, by rw [h1, h2]; exact a11⟩
namespace New4
def yN : MethodName := ⟨"java/lang/String", "<init>", "([CIILjava/lang/Void;)V"⟩
abbrev yB : ByteArray := jdk_42_method_149_code
theorem d0 : decode yB 0 = .ok (.aload_n 0, 1) := by decide +kernel
theorem d1 : decode yB 1 = .ok (.invokespecial 1, 3) := by decide +kernel
theorem d4 : decode yB 4 = .ok (.iload_n 3, 1) := by decide +kernel
theorem d5 : decode yB 5 = .ok (.ifCond (.ne) 22, 3) := by decide +kernel
theorem d27 : decode yB 27 = .ok (.getstatic 38, 3) := by decide +kernel
theorem d30 : decode yB 30 = .ok (.ifCond (.eq) 28, 3) := by decide +kernel
theorem d33 : decode yB 33 = .ok (.aload_n 1, 1) := by decide +kernel
theorem d34 : decode yB 34 = .ok (.iload_n 2, 1) := by decide +kernel
theorem d35 : decode yB 35 = .ok (.iload_n 3, 1) := by decide +kernel
theorem d36 : decode yB 36 = .ok (.invokestatic 177, 3) := by decide +kernel
theorem d39 : decode yB 39 = .ok (.astore 5, 2) := by decide +kernel
theorem d41 : decode yB 41 = .ok (.aload_n 0, 1) := by decide +kernel
theorem d42 : decode yB 42 = .ok (.aload 5, 2) := by decide +kernel
theorem d44 : decode yB 44 = .ok (.iload_n 3, 1) := by decide +kernel
theorem d45 : decode yB 45 = .ok (.invokestatic 47, 3) := by decide +kernel
theorem d48 : decode yB 48 = .ok (.putfield 15, 3) := by decide +kernel
theorem d51 : decode yB 51 = .ok (.aload_n 0, 1) := by decide +kernel
theorem d52 : decode yB 52 = .ok (.aload 5, 2) := by decide +kernel
theorem d54 : decode yB 54 = .ok (.putfield 9, 3) := by decide +kernel
theorem d57 : decode yB 57 = .ok (.return_, 1) := by decide +kernel
def site : List Cond := [.fieldLink "java/lang/String" 38 "java/lang/String" "COMPACT_STRINGS" "Z", Cmp3.tab, CodL.tab, .laysFinal "java/lang/String" "java/lang/String" "value" "[B", .fieldLink "java/lang/String" 9 "java/lang/String" "value" "[B", .laysFinal "java/lang/String" "java/lang/String" "coder" "B", .fieldLink "java/lang/String" 15 "java/lang/String" "coder" "B"] ++ objW "java/lang/String" 1 ++ staticW "java/lang/String" 177 Cmp3.yN ++ staticW "java/lang/String" 47 CodL.yN
def tab : Cond := tabOf yN yB 6 none site
def P (a : Addr) (D : Cell) (fV fC : Field) (b : Addr) (A : Cell) (z : Int32) (o len : Nat) (args : Array Value) (s : State) : Prop := args = #[.ref a, .ref b, .int (Int32.ofNat o), .int (Int32.ofNat len), .null] ∧ Blank "java/lang/String" a D s ∧ Found "java/lang/String" "value" "[B" fV s ∧ Found "java/lang/String" "coder" "B" fC s ∧ Ch b A s ∧ StaticIs s "java/lang/String" "COMPACT_STRINGS" "Z" (.int z) ∧ ¬ z = 0 ∧ 0 < len ∧ o + len ≤ A.slots.size ∧ len ≤ 536870912 ∧ ∀ i, i < len → ¬ 255 < cv A (o + i)
def E (a : Addr) (D : Cell) (fV fC : Field) (A : Cell) (o len : Nat) (r : Option Value) (s u : State) : Prop := Got a D fV fC A o len r s u
/-- len > 0, no char of the range above 255: a Latin-1 String of their low bytes -/
theorem law (l : Launch) (a : Addr) (D : Cell) (fV fC : Field) (b : Addr) (A : Cell) (z : Int32) (o len : Nat) : Law l yN 5 4 2 35 yB 6 none site (P a D fV fC b A z o len) (E a D fV fC A o len) [⟨a, fC.slot⟩, ⟨a, fV.slot⟩] 1 len := by
  refine Law.of_walk (plainFor_of_name (by decide +kernel)) (by decide +kernel) (by decide +kernel) (by decide) (fun _ _ h => by rw [h.1]; rfl) (fun _ U U' hal hh h => ⟨h.1, h.2.1.mv hal hh, h.2.2.1.al hal, h.2.2.2.1.al hal, h.2.2.2.2.1.mv hal hh, h.2.2.2.2.2.1.there hal hh, h.2.2.2.2.2.2⟩) (fun r U U' V V' h1 hal h2 h => Got.mv r U U' V V' h1 hal h2 h) ?_
  intro p e s m args below meth c s₁ X0 hexec hbytes hml hret hlk hnm hown hh0 W hP
  obtain ⟨rfl, hB, f1, f2, hA, s1, hz, l0, l1, l2, hp⟩ := hP
  have a31 := hA.1.2.2.2
  have c1 : Steps p.tables e below (s₁.setTop (entryFrame m #[.ref a, .ref b, .int (Int32.ofNat o), .int (Int32.ofNat len), .null] 6)) (s₁.setTop (mkF m 0 #[.val (.ref a), .val (.ref b), .val (.int (Int32.ofNat o)), .val (.int (Int32.ofNat len)), .val .null, .unset] [])) := entry rfl
  have c2 : Steps p.tables e below (s₁.setTop (entryFrame m #[.ref a, .ref b, .int (Int32.ofNat o), .int (Int32.ofNat len), .null] 6)) (s₁.setTop (mkF m 1 #[.val (.ref a), .val (.ref b), .val (.int (Int32.ofNat o)), .val (.int (Int32.ofNat len)), .val .null, .unset] [.ref a])) := c1.trans (by
    refine XS.aloadN X0.here hexec rfl (hb hbytes d0) rfl rfl ?_
    exact Steps.refl _)
  obtain ⟨T3, X3, q3, st3⟩ := X0.oinit hexec hown (wks W (objW "java/lang/String" 1)) (g := (mkF m 1 #[.val (.ref a), .val (.ref b), .val (.int (Int32.ofNat o)), .val (.int (Int32.ofNat len)), .val .null, .unset] [.ref a])) rfl (by rw [hml]; rfl) (rest := []) rfl (hb hbytes d1) (W := 0) (by show 2 * 0 + 0 ≤ _; decide) (Nat.le_of_ble_eq_true rfl) (Nat.le_of_ble_eq_true rfl)
  have hh3 := q3.trans hh0
  have c4 : Steps p.tables e below (s₁.setTop (entryFrame m #[.ref a, .ref b, .int (Int32.ofNat o), .int (Int32.ofNat len), .null] 6)) (T3.setTop (mkF m 27 #[.val (.ref a), .val (.ref b), .val (.int (Int32.ofNat o)), .val (.int (Int32.ofNat len)), .val .null, .unset] [])) := (c2.trans (st3 _ (Steps.refl _))).trans (by
    refine XS.iloadN X3.here hexec rfl (hb hbytes d4) rfl ?_
    refine XS.ifYes X3.here hexec rfl (pc0 := 5) rfl (hb hbytes d5) rfl (i0_ne_t (nz32 (by omega) l0)) (by decide) rfl ?_
    exact Steps.refl _)
  obtain ⟨T5, X5, q5, st5⟩ := X3.sget hexec hown (wk W (.fieldLink "java/lang/String" 38 "java/lang/String" "COMPACT_STRINGS" "Z")) s1 (fun _ _ h => by rw [hh3]; exact h) (g := (mkF m 27 #[.val (.ref a), .val (.ref b), .val (.int (Int32.ofNat o)), .val (.int (Int32.ofNat len)), .val .null, .unset] [])) rfl (hb hbytes d27)
  have hh5 := q5.trans hh3
  have c6 : Steps p.tables e below (s₁.setTop (entryFrame m #[.ref a, .ref b, .int (Int32.ofNat o), .int (Int32.ofNat len), .null] 6)) (T5.setTop (mkF m 30 #[.val (.ref a), .val (.ref b), .val (.int (Int32.ofNat o)), .val (.int (Int32.ofNat len)), .val .null, .unset] [.int z])) := c4.trans (st5 _ (Steps.refl _))
  have c7 : Steps p.tables e below (s₁.setTop (entryFrame m #[.ref a, .ref b, .int (Int32.ofNat o), .int (Int32.ofNat len), .null] 6)) (T5.setTop (mkF m 36 #[.val (.ref a), .val (.ref b), .val (.int (Int32.ofNat o)), .val (.int (Int32.ofNat len)), .val .null, .unset] [.int (Int32.ofNat len), .int (Int32.ofNat o), .ref b])) := c6.trans (by
    refine XS.ifNo X5.here hexec rfl (hb hbytes d30) rfl (i0_eq_f hz) ?_
    refine XS.aloadN X5.here hexec rfl (hb hbytes d33) rfl rfl ?_
    refine XS.iloadN X5.here hexec rfl (hb hbytes d34) rfl ?_
    refine XS.iloadN X5.here hexec rfl (hb hbytes d35) rfl ?_
    exact Steps.refl _)
  obtain ⟨v8, T8, X8, E8, g8⟩ := X5.callS hexec (Cmp3.law l b A o len) hown (wks W (staticW "java/lang/String" 177 Cmp3.yN)) (wk W Cmp3.tab) (W := 0) (Nat.le_of_ble_eq_true rfl) (Nat.le_of_ble_eq_true rfl) (Nat.le_refl _) (by show 0 + len ≤ len; omega) (g := (mkF m 36 #[.val (.ref a), .val (.ref b), .val (.int (Int32.ofNat o)), .val (.int (Int32.ofNat len)), .val .null, .unset] [.int (Int32.ofNat len), .int (Int32.ofNat o), .ref b])) rfl (by rw [hml]; rfl) c7 (argsL := [.ref b, .int (Int32.ofNat o), .int (Int32.ofNat len)]) (rest := []) rfl rfl (by show 2 * 0 + 0 ≤ _; decide) (hb hbytes d36) (⟨rfl, hA.mv X5.warmed.alike hh5, l1, l2, hp⟩)
  obtain ⟨e8, z8⟩ := E8
  obtain ⟨rfl, N, n1, n2, n3, n4, n5, n6⟩ := NewArr.mv _ T5 s _ _ hh5.symm (Vm.Alike.refl _) rfl e8
  rw [hh5] at z8
  have hB1 := hB.keep X8.warmed.alike (n6 _ _ hB.1)
  have hne : s.heap.size ≠ a := (Nat.ne_of_lt (Array.getElem?_eq_some_iff.mp hB.1).1).symm
  have c9 : Steps p.tables e below (s₁.setTop (entryFrame m #[.ref a, .ref b, .int (Int32.ofNat o), .int (Int32.ofNat len), .null] 6)) (T8.setTop (mkF m 39 #[.val (.ref a), .val (.ref b), .val (.int (Int32.ofNat o)), .val (.int (Int32.ofNat len)), .val .null, .unset] [.ref s.heap.size])) := g8
  have c10 : Steps p.tables e below (s₁.setTop (entryFrame m #[.ref a, .ref b, .int (Int32.ofNat o), .int (Int32.ofNat len), .null] 6)) (T8.setTop (mkF m 45 #[.val (.ref a), .val (.ref b), .val (.int (Int32.ofNat o)), .val (.int (Int32.ofNat len)), .val .null, .val (.ref s.heap.size)] [.int (Int32.ofNat N.slots.size), .ref s.heap.size, .ref a])) := by
    have hc : Steps p.tables e below (s₁.setTop (entryFrame m #[.ref a, .ref b, .int (Int32.ofNat o), .int (Int32.ofNat len), .null] 6)) (T8.setTop (mkF m 45 #[.val (.ref a), .val (.ref b), .val (.int (Int32.ofNat o)), .val (.int (Int32.ofNat len)), .val .null, .val (.ref s.heap.size)] [.int (Int32.ofNat len), .ref s.heap.size, .ref a])) := c9.trans (by
      refine XS.astore X8.here hexec rfl (hb hbytes d39) rfl rfl rfl ?_
      refine XS.aloadN X8.here hexec rfl (hb hbytes d41) rfl rfl ?_
      refine XS.aload X8.here hexec rfl (hb hbytes d42) rfl rfl ?_
      refine XS.iloadN X8.here hexec rfl (hb hbytes d44) rfl ?_
      exact Steps.refl _)
    rw [n4]; exact hc
  obtain ⟨v11, T11, X11, E11, g11⟩ := X8.callS hexec (CodL.law l s.heap.size N) hown (wks W (staticW "java/lang/String" 47 CodL.yN)) (wk W CodL.tab) (W := 1) (Nat.le_of_ble_eq_true rfl) (Nat.le_of_ble_eq_true rfl) (Nat.le_refl _) (by show 0 + len + 0 ≤ len; omega) (g := (mkF m 45 #[.val (.ref a), .val (.ref b), .val (.int (Int32.ofNat o)), .val (.int (Int32.ofNat len)), .val .null, .val (.ref s.heap.size)] [.int (Int32.ofNat N.slots.size), .ref s.heap.size, .ref a])) rfl (by rw [hml]; rfl) c10 (argsL := [.ref s.heap.size, .int (Int32.ofNat N.slots.size)]) (rest := [.ref a]) rfl rfl (by show 2 * 0 + (1 + 0) ≤ _; decide) (hb hbytes d45) (⟨rfl, n1⟩)
  obtain ⟨rfl, q11⟩ := E11
  have hB11 := hB1.mv (X8.warmed.alike.symm.trans X11.warmed.alike) q11
  have c12 : Steps p.tables e below (s₁.setTop (entryFrame m #[.ref a, .ref b, .int (Int32.ofNat o), .int (Int32.ofNat len), .null] 6)) (T11.setTop (mkF m 48 #[.val (.ref a), .val (.ref b), .val (.int (Int32.ofNat o)), .val (.int (Int32.ofNat len)), .val .null, .val (.ref s.heap.size)] [.int 0, .ref a])) := g11
  obtain ⟨T13, X13, p13, bl13, sl13, st13⟩ := X11.finit hexec hown (wk W (.fieldLink "java/lang/String" 15 "java/lang/String" "coder" "B")) (Or.inr ⟨_, (wk W (.laysFinal "java/lang/String" "java/lang/String" "coder" "B"))⟩) (Or.inl ⟨rfl, hnm⟩) f2 (Or.inl rfl) hB11 (t := .byte) (by decide +kernel) rfl (g := (mkF m 48 #[.val (.ref a), .val (.ref b), .val (.int (Int32.ofNat o)), .val (.int (Int32.ofNat len)), .val .null, .val (.ref s.heap.size)] [.int 0, .ref a])) rfl (rest := []) rfl (hb hbytes d48)
  have c14 : Steps p.tables e below (s₁.setTop (entryFrame m #[.ref a, .ref b, .int (Int32.ofNat o), .int (Int32.ofNat len), .null] 6)) (T13.setTop (mkF m 54 #[.val (.ref a), .val (.ref b), .val (.int (Int32.ofNat o)), .val (.int (Int32.ofNat len)), .val .null, .val (.ref s.heap.size)] [.ref s.heap.size, .ref a])) := (c12.trans (st13 _ (Steps.refl _))).trans (by
    refine XS.aloadN X13.here hexec rfl (hb hbytes d51) rfl rfl ?_
    refine XS.aload X13.here hexec rfl (hb hbytes d52) rfl rfl ?_
    exact Steps.refl _)
  obtain ⟨T15, X15, p15, bl15, sl15, st15⟩ := X13.finit hexec hown (wk W (.fieldLink "java/lang/String" 9 "java/lang/String" "value" "[B")) (Or.inr ⟨_, (wk W (.laysFinal "java/lang/String" "java/lang/String" "value" "[B"))⟩) (Or.inl ⟨rfl, hnm⟩) f1 (Or.inl rfl) bl13 (t := (.array .byte)) (by decide +kernel) rfl (g := (mkF m 54 #[.val (.ref a), .val (.ref b), .val (.int (Int32.ofNat o)), .val (.int (Int32.ofNat len)), .val .null, .val (.ref s.heap.size)] [.ref s.heap.size, .ref a])) rfl (rest := []) rfl (hb hbytes d54)
  have c16 : Steps p.tables e below (s₁.setTop (entryFrame m #[.ref a, .ref b, .int (Int32.ofNat o), .int (Int32.ofNat len), .null] 6)) (T15.setTop (mkF m 57 #[.val (.ref a), .val (.ref b), .val (.int (Int32.ofNat o)), .val (.int (Int32.ofNat len)), .val .null, .val (.ref s.heap.size)] [])) := c14.trans (st15 _ (Steps.refl _))
  have ap := apart (Or.inr ⟨_, (wk W (.laysFinal "java/lang/String" "java/lang/String" "value" "[B"))⟩) (Or.inr ⟨_, (wk W (.laysFinal "java/lang/String" "java/lang/String" "coder" "B"))⟩) f1 f2 (t₁ := .array .byte) (t₂ := .byte) (by decide +kernel) (by decide +kernel) (by decide)
  have al := X8.warmed.alike.symm.trans X15.warmed.alike
  have n7 : T11.heap[s.heap.size]? = some N := by rw [q11]; exact n1.1
  exact ⟨T15, none, _, _, _, X15, by simp, rfl, by omega, (fun _ => rfl), ⟨rfl, _, N, bl15, ((Same.refl D _).set _ (by simp)).set _ (by simp), sl15, (Cell.slots_setSlot_ne _ ap).trans sl13, n1.keep al (p15.other hne (p13.other hne n7)), n2, by rw [al.findClass]; exact n3, n4, n5, fun y c h1 h2 => p15.other h1 (p13.other h1 (by rw [q11]; exact n6 y c h2)), by rw [p15.2.2, p13.2.2, q11]; exact z8⟩, fun fs hl => c16.trans (X15.returnOut hexec hret (hb hbytes d57) hl)⟩
end New4
namespace New1
def yN : MethodName := ⟨"java/lang/String", "<init>", "([C)V"⟩
abbrev yB : ByteArray := jdk_42_method_3_code
theorem d0 : decode yB 0 = .ok (.aload_n 0, 1) := by decide +kernel
theorem d1 : decode yB 1 = .ok (.aload_n 1, 1) := by decide +kernel
theorem d2 : decode yB 2 = .ok (.iconst 0, 1) := by decide +kernel
theorem d3 : decode yB 3 = .ok (.aload_n 1, 1) := by decide +kernel
theorem d4 : decode yB 4 = .ok (.arraylength, 1) := by decide +kernel
theorem d5 : decode yB 5 = .ok (.aconst_null, 1) := by decide +kernel
theorem d6 : decode yB 6 = .ok (.invokespecial 27, 3) := by decide +kernel
theorem d9 : decode yB 9 = .ok (.return_, 1) := by decide +kernel
def site : List Cond := [New4.tab] ++ initW "java/lang/String" 27 New4.yN
def tab : Cond := tabOf yN yB 2 none site
def P (a : Addr) (D : Cell) (fV fC : Field) (b : Addr) (A : Cell) (z : Int32) (args : Array Value) (s : State) : Prop := args = #[.ref a, .ref b] ∧ Blank "java/lang/String" a D s ∧ Found "java/lang/String" "value" "[B" fV s ∧ Found "java/lang/String" "coder" "B" fC s ∧ Ch b A s ∧ StaticIs s "java/lang/String" "COMPACT_STRINGS" "Z" (.int z) ∧ ¬ z = 0 ∧ 0 < A.slots.size ∧ A.slots.size ≤ 536870912 ∧ ∀ i, i < A.slots.size → ¬ 255 < cv A i
def E (a : Addr) (D : Cell) (fV fC : Field) (A : Cell) (r : Option Value) (s u : State) : Prop := Got a D fV fC A 0 A.slots.size r s u
/-- new String(chars), not empty, no char above 255: a Latin-1 String of their low bytes -/
theorem law (l : Launch) (a : Addr) (D : Cell) (fV fC : Field) (b : Addr) (A : Cell) (z : Int32) : Law l yN 2 1 3 52 yB 2 none site (P a D fV fC b A z) (E a D fV fC A) [⟨a, fC.slot⟩, ⟨a, fV.slot⟩] 1 A.slots.size := by
  refine Law.of_walk (plainFor_of_name (by decide +kernel)) (by decide +kernel) (by decide +kernel) (by decide) (fun _ _ h => by rw [h.1]; rfl) (fun _ U U' hal hh h => ⟨h.1, h.2.1.mv hal hh, h.2.2.1.al hal, h.2.2.2.1.al hal, h.2.2.2.2.1.mv hal hh, h.2.2.2.2.2.1.there hal hh, h.2.2.2.2.2.2⟩) (fun r U U' V V' h1 hal h2 h => Got.mv r U U' V V' h1 hal h2 h) ?_
  intro p e s m args below meth c s₁ X0 hexec hbytes hml hret hlk hnm hown hh0 W hP
  obtain ⟨rfl, hB, f1, f2, hA, s1, hz, l0, l2, hp⟩ := hP
  have c1 : Steps p.tables e below (s₁.setTop (entryFrame m #[.ref a, .ref b] 2)) (s₁.setTop (mkF m 0 #[.val (.ref a), .val (.ref b)] [])) := entry rfl
  have c2 : Steps p.tables e below (s₁.setTop (entryFrame m #[.ref a, .ref b] 2)) (s₁.setTop (mkF m 6 #[.val (.ref a), .val (.ref b)] [.null, .int (Int32.ofNat A.slots.size), .int 0, .ref b, .ref a])) := c1.trans (by
    refine XS.aloadN X0.here hexec rfl (hb hbytes d0) rfl rfl ?_
    refine XS.aloadN X0.here hexec rfl (hb hbytes d1) rfl rfl ?_
    refine iconstV X0.here hexec rfl 0 (hb hbytes d2) (by decide) ?_
    refine XS.aloadN X0.here hexec rfl (hb hbytes d3) rfl rfl ?_
    refine X0.alen hexec (hA.1.mv X0.warmed.alike hh0) rfl rfl (hb hbytes d4) ?_
    refine XS.aconstNull X0.here hexec rfl (hb hbytes d5) ?_
    exact Steps.refl _)
  obtain ⟨v3, T3, X3, E3, g3⟩ := X0.callN hexec (New4.law l a D fV fC b A z 0 A.slots.size) rfl hown (wks W (initW "java/lang/String" 27 New4.yN)) (W New4.tab (by simp only [site, List.mem_cons, List.mem_append, true_or, or_true])) (W := 0) (Nat.le_of_ble_eq_true rfl) (Nat.le_of_ble_eq_true rfl) (Nat.le_refl _) (by show 0 + A.slots.size ≤ A.slots.size; omega) (g := (mkF m 6 #[.val (.ref a), .val (.ref b)] [.null, .int (Int32.ofNat A.slots.size), .int (Int32.ofNat 0), .ref b, .ref a])) rfl (by rw [hml]; rfl) c2 (argsL := [.ref b, .int (Int32.ofNat 0), .int (Int32.ofNat A.slots.size), .null]) (rest := []) rfl rfl (by show 2 * 0 + 0 ≤ _; decide) (hb hbytes d6) (⟨rfl, hB.mv X0.warmed.alike hh0, f1.al X0.warmed.alike, f2.al X0.warmed.alike, hA.mv X0.warmed.alike hh0, s1.there X0.warmed.alike hh0, hz, l0, by omega, l2, fun i hi => by rw [Nat.zero_add]; exact hp i hi⟩)
  have e0 := Got.mv _ s₁ s _ _ hh0.symm (Vm.Alike.refl _) rfl E3
  obtain rfl := e0.1
  have c4 : Steps p.tables e below (s₁.setTop (entryFrame m #[.ref a, .ref b] 2)) (T3.setTop (mkF m 9 #[.val (.ref a), .val (.ref b)] [])) := g3
  exact ⟨T3, none, _, _, _, X3, by simp, rfl, by omega, (fun _ => rfl), e0, fun fs hl => c4.trans (X3.returnOut hexec hret (hb hbytes d9) hl)⟩
theorem pays {l : Launch} {R : Room} {p : Program} {e : Env} {below : List Frame} {s : State} {sargs : Array Value} {len W : Nat} (a : Addr) (D : Cell) (fV fC : Field) (b : Addr) (A : Cell) (z : Int32) (htab : tab.before sargs s = true) (hfr : 4 ≤ R.frames) (hlo : W + 65 ≤ R.locals) :
    Back l R p e below s sargs yN len W (fun A₁ a₁ => A₁.cells + 1 ≤ R.cells ∧ A₁.slots + A.slots.size ≤ R.slots ∧ P a D fV fC b A z a₁ A₁.U) (fun A₁ _ v₁ B₁ => E a D fV fC A v₁ A₁.U B₁.U ∧ B₁.locs = A₁.locs ++ [⟨a, fC.slot⟩, ⟨a, fV.slot⟩] ∧ B₁.cells = A₁.cells + 1 ∧ B₁.slots = A₁.slots + A.slots.size) :=
  (law l a D fV fC b A z).pays htab hfr (by omega)
end New1
/-- the byte, read back as charAt reads it, is the char -/
theorem lo8_mask {x : Int32} (h0 : ¬ x < 0) (h1 : ¬ 255 < x) : lo8 x &&& 255 = x := by
  have t : ∀ k : Fin 256, lo8 (Int32.ofNat k.val) &&& 255 = Int32.ofNat k.val := by decide +kernel
  rw [Int32.lt_iff_toInt_lt] at h0 h1
  have e0 : (0 : Int32).toInt = 0 := rfl
  have e1 : (255 : Int32).toInt = 255 := rfl
  obtain ⟨k, hk⟩ : ∃ k : Nat, x.toInt = k := ⟨x.toInt.toNat, by omega⟩
  have hx : x = Int32.ofNat k := Int32.toInt_inj.mp (by rw [hk, Int32.toInt_ofNat_small (by omega)])
  rw [hx]
  exact t ⟨k, by omega⟩
end StrChars
namespace StrChars.Road
open Jvm Sem ClassFile Op Lib Jvm.Stand Jvm.Free Jvm.Free.XT
open Jvm.Lib.Cold (StaticIs)
abbrev ST : String := "java/lang/String"
/-- every table word that New1's law asks, flat -/
abbrev words : List Jvm.Cond := [.code New1.yN New1.yB 2 none, .initialized ST, .methodLink ST 27 New4.yN, .instanceMethod New4.yN,
  .code New4.yN New4.yB 6 none, .fieldLink ST 38 ST "COMPACT_STRINGS" "Z", .laysFinal ST ST "value" "[B", .fieldLink ST 9 ST "value" "[B", .laysFinal ST ST "coder" "B", .fieldLink ST 15 ST "coder" "B",
  .methodLink ST 1 Lib.objectInit, .instanceMethod Lib.objectInit, .code Lib.objectInit ⟨#[0xb1]⟩ 1 none, .methodLink ST 177 Cmp3.yN, .static Cmp3.yN, .methodLink ST 47 CodL.yN, .static CodL.yN,
  .code Cmp3.yN Cmp3.yB 6 (some (.array .byte)), .initialized U16, .arrayClass .byte, .methodLink U16 115 Cmp5.yN, .static Cmp5.yN, .code Cmp5.yN Cmp5.yB 7 (some .int), .code CodL.yN CodL.yB 2 (some .byte)]
theorem tab_of {a : Array Value} {s : State} (h : ∀ w ∈ words, w.before a s = true) : New1.tab.before a s = true := by
  have h5 : Cmp5.tab.before a s = true := unparts (wk h (.code Cmp5.yN Cmp5.yB 7 (some .int))) (wks h (.initialized Cmp5.yN.cls :: Cmp5.site))
  have hc : CodL.tab.before a s = true := unparts (wk h (.code CodL.yN CodL.yB 2 (some .byte))) (wks h (.initialized CodL.yN.cls :: CodL.site))
  have q5 : ∀ w ∈ Cmp5.tab :: words, w.before a s = true := fun w hw => (List.mem_cons.mp hw).elim (fun e => e ▸ h5) (h w)
  have h3 : Cmp3.tab.before a s = true := unparts (wk q5 (.code Cmp3.yN Cmp3.yB 6 (some (.array .byte)))) (wks q5 (.initialized Cmp3.yN.cls :: Cmp3.site))
  have q3 : ∀ w ∈ Cmp3.tab :: CodL.tab :: words, w.before a s = true := fun w hw => (List.mem_cons.mp hw).elim (fun e => e ▸ h3) fun hw => (List.mem_cons.mp hw).elim (fun e => e ▸ hc) (h w)
  have h4 : New4.tab.before a s = true := unparts (wk q3 (.code New4.yN New4.yB 6 none)) (wks q3 (.initialized New4.yN.cls :: New4.site))
  have q4 : ∀ w ∈ New4.tab :: words, w.before a s = true := fun w hw => (List.mem_cons.mp hw).elim (fun e => e ▸ h4) (h w)
  exact unparts (wk q4 (.code New1.yN New1.yB 2 none)) (wks q4 (.initialized New1.yN.cls :: New1.site))
/-- the words ride from the start Z to the walk's own state -/
theorem moved {Z s : State} {a0 args : Array Value} (hZ : Z.Warmed39 s.vm) (hw : ∀ d ∈ words, d.before a0 Z = true) : ∀ d ∈ words, d.before args s = true := fun d hd => by
  have q := hw d hd
  have t : ∀ d ∈ words, d = .arrayClass .byte ∨ (d.onTables && d.keepsFace) = true := by decide +kernel
  rcases t d hd with rfl | t
  · exact RoadKit.mvA hZ q
  · exact RoadKit.mv hZ q t
/-- WHAT COMES BACK, over the tables of the start Z: h the heap at the call, h' behind it -/
def Q (Z : State) (x : Addr) (A : Cell) (h : Heap) (v : Option Value) (h' : Heap) (L : List Loc) : Prop := v = none ∧ (∀ y ∈ L, y.base = x) ∧ RoadKit.Keep h h' [x] ∧ h'.size = h.size + 1 ∧ RoadKit.Exa Z h' x ST ∧ RoadKit.Fld Z h' x ST "value" "[B" (.ref h.size) ∧ RoadKit.Fld Z h' x ST "coder" "B" (.int 0) ∧
  (∃ V : Cell, RoadKit.Arr Z h' h.size V .byte ∧ V.vm = .none ∧ Z.vm.findClass "[B" = some V.cls ∧ V.slots.size = A.slots.size ∧ ∀ j, j < A.slots.size → V.slots[j]? = some (.int (lo8 (cv A j)))) ∧
  ∀ (O n d : String) (w : Value), RoadKit.Fld Z h x O n d w → RoadKit.slotOf Z O n d ≠ RoadKit.slotOf Z ST "value" "[B" → RoadKit.slotOf Z O n d ≠ RoadKit.slotOf Z ST "coder" "B" → RoadKit.Fld Z h' x O n d w
/-- **new String(chars) AT A CALL, IN THE ROAD'S FORM**: for specialBack behind newO: x the fresh String, b the char[] with the cell A -/
theorem back {p : Program} {l : Launch} {e : Env} {R : Room} {s : State} {args : Array Value} {below : List Frame} {len W : Nat} {Z : State} {a0 : Array Value} {h : Heap} (hZ : Z.Warmed39 s.vm) (hw : ∀ d ∈ words, d.before a0 Z = true) {kI : Nat} (wi : (Jvm.Cond.instantiable ST kI).before a0 Z = true)
    {x b : Addr} {A : Cell} {z : Int32} {v0 c0 : Value} (E : RoadKit.Exa Z h x ST) (V : RoadKit.Fld Z h x ST "value" "[B" v0) (C : RoadKit.Fld Z h x ST "coder" "B" c0) (K : RoadKit.Arr Z h b A .char) (hty : Typed .char A) (S : RoadKit.Sta Z h ST "COMPACT_STRINGS" "Z" (.int z)) (hz : ¬ z = 0)
    (l0 : 0 < A.slots.size) (l2 : A.slots.size ≤ 536870912) (hp : ∀ i, i < A.slots.size → ¬ 255 < cv A i) (hfr : 4 ≤ R.frames) (hlo : W + 65 ≤ R.locals) :
    Back l R p e below s args New1.yN len W (fun P a => a = #[.ref x, .ref b] ∧ P.U.heap = h ∧ P.cells + 1 ≤ R.cells ∧ P.slots + A.slots.size ≤ R.slots)
      (fun P _ v B => ∃ L, Q Z x A h v B.U.heap L ∧ B.locs = P.locs ++ L ∧ B.cells = P.cells + 1 ∧ B.slots = P.slots + A.slots.size) := by
  intro m meth c P g ig mk a X hg hsize hdg hW hn hp'
  obtain ⟨rfl, rfl, r1, r2⟩ := hp'
  have al : Z.vm.Alike P.U.vm := hZ.alike.trans X.warmed.alike
  obtain ⟨D, cfV, kV, iV, fV, hD, gV, stV, knV, obV, asV, slV⟩ := id V
  obtain ⟨D', cfC, kC, iC, fC, hD', gC, stC, -, -, asC, slC⟩ := id C
  cases hD.symm.trans hD'
  obtain ⟨D2, kD, e1, e2, e3, e4, e5⟩ := id E
  cases hD.symm.trans e1
  obtain ⟨c2, k2, i1, i2, i3, -⟩ := Cond.instantiable_spec wi
  cases e2.symm.trans i1
  cases e3.symm.trans i2
  obtain ⟨kU, u1, u2⟩ := al.2.2 _ _ e3
  have hB : Blank ST x D P.U := ⟨hD, ⟨knV, fun q hq => by rw [hq] at obV; cases obV⟩, by rw [al.findClass]; exact e2, kU, u1, by rw [u2]; exact i3, by rw [u2]; exact e5 i3⟩
  have F1 : Found ST "value" "[B" fV P.U := ⟨SBG.found_only al ⟨cfV, kV, iV, gV⟩, stV⟩
  have F2 : Found ST "coder" "B" fC P.U := ⟨SBG.found_only al ⟨cfC, kC, iC, gC⟩, stC⟩
  have hA : Ch b A P.U := ⟨⟨K.1, State.isArrayOf_alike al K.2.1, K.2.2, by omega⟩, hty⟩
  have hS : StaticIs P.U ST "COMPACT_STRINGS" "Z" (.int z) := by
    obtain ⟨cfS, iS, kS, fS, st, cS, t1, t2, t3, t4, t5, t6, t7⟩ := S
    exact StaticIs.there (s := { Z with heap := P.U.heap }) ⟨cfS, iS, kS, fS, st, cS, t1, t2, t3, t4, t5, (fun q => by rw [q] at t6; cases t6), t7⟩ al rfl
  obtain ⟨v, B, X', ⟨⟨hv, E', V', q1, q2, q3, q4, q5, q6, q7, q8, q9, q10, q11⟩, hl, hc, hs⟩, st⟩ := New1.pays x D fV fC b A z (tab_of (moved hZ hw)) hfr hlo m meth c P g ig mk _ X hg hsize hdg hW hn ⟨r1, r2, rfl, hB, F1, F2, hA, hS, hz, l0, l2, hp⟩
  have al' : Z.vm.Alike B.U.vm := hZ.alike.trans X'.warmed.alike
  have hsz : E'.slots.size = D.slots.size := by
    obtain ⟨-, -, -, kB, w1, w2, w3⟩ := q1
    obtain ⟨kB', y1, y2⟩ := al'.2.2 _ _ e3
    rw [q2.2.1] at w1
    cases w1.symm.trans y1
    rw [w3, e5 i3, y2]
  refine ⟨v, B, X', ⟨_, ⟨hv, ?_, ⟨by omega, fun y cy hy hn' => q10 y cy (by simpa using hn') hy, fun y cy hy => ?_⟩, q11, ⟨E', _, q1.1, by rw [q2.2.1]; exact e2, by rw [q2.2.1]; exact e3, by rw [q2.1]; exact obV, fun _ => by rw [hsz]; exact e5 i3⟩,
    ⟨E', cfV, kV, iV, fV, q1.1, gV, stV, by rw [q2.1]; exact knV, by rw [q2.1]; exact obV, by rw [q2.2.1]; exact asV, q3⟩, ⟨E', cfC, kC, iC, fC, q1.1, gC, stC, by rw [q2.1]; exact knV, by rw [q2.1]; exact obV, by rw [q2.2.1]; exact asC, q4⟩,
    ⟨V', ⟨q5.1, State.isArrayOf_alike al'.symm q5.2.1, q5.2.2.1⟩, q6, by rw [← al'.findClass]; exact q7, q8, fun j hj => by have := q9 j hj; rwa [Nat.zero_add] at this⟩, fun O n d w F n1 n2 => ?_⟩, hl, hc, hs⟩, st⟩
  · intro y hy
    simp only [List.mem_cons, List.not_mem_nil, or_false] at hy
    rcases hy with rfl | rfl <;> rfl
  · by_cases q : y = x
    · subst q
      cases hD.symm.trans hy
      exact ⟨E', q1.1, q2.2.1, q2.1, hsz⟩
    · exact ⟨cy, q10 y cy q hy, rfl, rfl, rfl⟩
  · obtain ⟨D3, cf, k, i, f, g1, g2, g3, g4, g5, g6, g7⟩ := F
    cases hD.symm.trans g1
    simp only [RoadKit.slotOf, g2, gV, gC, Option.map_some, Option.getD_some] at n1 n2
    exact ⟨E', cf, k, i, f, q1.1, g2, g3, by rw [q2.1]; exact g4, by rw [q2.1]; exact g5, by rw [q2.2.1]; exact g6, by rw [q2.2.2 f.slot (by simp [n1, n2])]; exact g7⟩
end StrChars.Road
namespace StrChars.Road
open Jvm Sem ClassFile Op Lib Jvm.Stand Jvm.Free Jvm.Free.XT
/-- WHAT COMES BACK, the byte[] as a list of values -/
def QA (Z : State) (x : Addr) (zn : Int32) (cs : List Int32) (h : Heap) (v : Option Value) (h' : Heap) (L : List Loc) : Prop := v = none ∧ (∀ y ∈ L, y.base = x) ∧ RoadKit.Keep h h' [x] ∧ h'.size = h.size + 1 ∧ RoadKit.Exa Z h' x ST ∧ RoadKit.Fld Z h' x ST "value" "[B" (.ref h.size) ∧ RoadKit.Fld Z h' x ST "coder" "B" (.int 0) ∧
  (∃ kb, Z.vm.findClass "[B" = some kb ∧ RoadKit.Arv Z h' h.size kb .byte zn (cs.map fun c => .int (lo8 c)) (.int 0)) ∧
  ∀ (O n d : String) (w : Value), RoadKit.Fld Z h x O n d w → RoadKit.slotOf Z O n d ≠ RoadKit.slotOf Z ST "value" "[B" → RoadKit.slotOf Z O n d ≠ RoadKit.slotOf Z ST "coder" "B" → RoadKit.Fld Z h' x O n d w
/-- **new String(chars) AT A CALL, THE ARRAYS AS LISTS**: the char[] at b holds cs, not empty, no char above 255 -/
theorem backArv {p : Program} {l : Launch} {e : Env} {R : Room} {s : State} {args : Array Value} {below : List Frame} {len W : Nat} {Z : State} {a0 : Array Value} {h : Heap} (hZ : Z.Warmed39 s.vm) (hw : ∀ d ∈ words, d.before a0 Z = true) {kI : Nat} (wi : (Jvm.Cond.instantiable ST kI).before a0 Z = true)
    {x b : Addr} {k : ClassId} {zn z : Int32} {cs : List Int32} {dv v0 c0 : Value} (E : RoadKit.Exa Z h x ST) (V : RoadKit.Fld Z h x ST "value" "[B" v0) (C : RoadKit.Fld Z h x ST "coder" "B" c0) (K : RoadKit.Arv Z h b k .char zn (cs.map Value.int) dv) (S : RoadKit.Sta Z h ST "COMPACT_STRINGS" "Z" (.int z)) (hz : ¬ z = 0)
    (hlen : zn.toNatClampNeg = cs.length) (h0 : 0 < cs.length) (hbig : cs.length ≤ 536870912) (hall : ∀ c ∈ cs, ¬ 255 < c) (hfr : 4 ≤ R.frames) (hlo : W + 65 ≤ R.locals) :
    Back l R p e below s args New1.yN len W (fun P a => a = #[.ref x, .ref b] ∧ P.U.heap = h ∧ P.cells + 1 ≤ R.cells ∧ P.slots + cs.length ≤ R.slots)
      (fun P _ v B => ∃ L, QA Z x zn cs h v B.U.heap L ∧ B.locs = P.locs ++ L ∧ B.cells = P.cells + 1 ∧ B.slots = P.slots + cs.length) := by
  obtain ⟨A, K1, K2, K3, K4, K5, K6⟩ := K
  have e : A.slots.size = cs.length := K3.trans hlen
  have hat : ∀ (i : Nat) (hi : i < cs.length), A.slots[i]? = some (.int cs[i]) := fun i hi => by rw [K5 i (by omega)]; simp [List.getD_eq_getElem?_getD, hi]
  have hcv : ∀ (i : Nat) (hi : i < cs.length), cv A i = cs[i] := fun i hi => by unfold cv; rw [hat i hi]
  have hty : Typed .char A := fun i v hv => by
    have hi : i < A.slots.size := (Array.getElem?_eq_some_iff.mp hv).1
    have q := K5 i hi
    rw [hv] at q
    rw [Option.some.inj q]
    exact K6 i hi
  refine Back.mono (back hZ hw wi E V C K1 hty S hz (by omega) (by omega) (fun i hi => by rw [hcv i (by omega)]; exact hall _ (List.getElem_mem _)) hfr hlo) (fun P a hp => ⟨hp.1, hp.2.1, hp.2.2.1, by rw [e]; exact hp.2.2.2⟩) (fun P a v B hp hq => ?_)
  obtain ⟨L, ⟨q1, q2, q3, q4, q5, q6, q7, ⟨V', v1, v2, v3, v4, v5⟩, q9⟩, hl, hc, hs⟩ := hq
  refine ⟨L, ⟨q1, q2, q3, q4, q5, q6, q7, ⟨V'.cls, v3, V', v1, rfl, by rw [v4, e, hlen], K4, fun i hi => ?_, fun i hi => ?_⟩, q9⟩, hl, hc, by rw [hs, e]⟩
  · have hi' : i < cs.length := by omega
    rw [v5 i (by omega), hcv i hi']; simp [List.getD_eq_getElem?_getD, hi']
  · have hi' : i < cs.length := by omega
    simp only [List.getD_eq_getElem?_getD, List.getElem?_map, List.getElem?_eq_getElem hi', Option.map_some, Option.getD_some]
    exact fits_lo8 _
end StrChars.Road
namespace StrChars.Road
open Jvm Sem ClassFile Op Lib Jvm.Stand Jvm.Free Jvm.Free.XT
/-- WHAT COMES BACK, in the writer's own shape -/
def QV (Z : State) (x : Addr) (N : Int32) (bs : List Int32) (h : Heap) (n0 : Nat) (v : Option Value) (h' : Heap) (L : List Loc) : Prop := v = none ∧ RoadKit.Fr n0 L ∧ RoadKit.Keep h h' [x] ∧ RoadKit.Exa Z h' x ST ∧ RoadKit.Fld Z h' x ST "coder" "B" (.int 0) ∧
  ∃ (t : Addr) (kb : ClassId), n0 ≤ t ∧ h.size ≤ t ∧ ¬ t = x ∧ RoadKit.Fld Z h' x ST "value" "[B" (.ref t) ∧ RoadKit.Arv Z h' t kb .byte N (bs.map Value.int) (.int 0)
/-- **new String(chars) AT A CALL, FOR THE WRITER**: a char[] of n known ints, each 0 to 255 -/
theorem backV {p : Program} {l : Launch} {e : Env} {R : Room} {s : State} {args : Array Value} {below : List Frame} {len W : Nat} {Z : State} {a0 : Array Value} {h : Heap} (hZ : Z.Warmed39 s.vm) (hw : ∀ d ∈ words, d.before a0 Z = true) {kI : Nat} (wi : (Jvm.Cond.instantiable ST kI).before a0 Z = true)
    {x b : Addr} {kC : ClassId} {cs bs : List Int32} {d v0 c0 : Value} {z N : Int32} {n n0 : Nat} (hx0 : n0 ≤ x) (hh0 : n0 ≤ h.size) (E : RoadKit.Exa Z h x ST) (V : RoadKit.Fld Z h x ST "value" "[B" v0) (C : RoadKit.Fld Z h x ST "coder" "B" c0) (K : RoadKit.Arv Z h b kC .char N (cs.map Value.int) d) (S : RoadKit.Sta Z h ST "COMPACT_STRINGS" "Z" (.int z)) (hz : ¬ z = 0)
    (hn : cs.length = n) (hN : N = Int32.ofNat n) (l0 : 0 < n) (l2 : n ≤ 4000) (hp : ∀ c ∈ cs, ¬ c < 0 ∧ ¬ (255 : Int32) < c) (hb : bs = cs.map (fun c => c.toInt8.toInt32)) (hfr : 4 ≤ R.frames) (hlo : W + 65 ≤ R.locals) :
    Back l R p e below s args (⟨"java/lang/String", "<init>", "([C)V"⟩ : MethodName) len W (fun P a => a = #[.ref x, .ref b] ∧ P.U.heap = h ∧ P.cells + 1 ≤ R.cells ∧ P.slots + n ≤ R.slots)
      (fun P _ v B => ∃ L, QV Z x N bs h n0 v B.U.heap L ∧ B.locs = P.locs ++ L ∧ B.cells = P.cells + 1 ∧ B.slots = P.slots + n) := by
  subst hn hN hb
  refine Back.mono (backArv hZ hw wi E V C K S hz (n32 (by omega)) l0 (by omega) (fun c hc => (hp c hc).2) hfr hlo) (fun P a hp => hp) (fun P a v B hp hq => ?_)
  obtain ⟨L, ⟨q1, q2, q3, q4, q5, q6, q7, ⟨kb, v1, v2⟩, q9⟩, hl, hc, hs⟩ := hq
  exact ⟨L, ⟨q1, fun y hy => by rw [q2 y hy]; exact hx0, q3, q5, q7, h.size, kb, hh0, Nat.le_refl _, Nat.ne_of_gt E.lt, q6, by rw [List.map_map]; exact v2⟩, hl, hc, hs⟩
end StrChars.Road
namespace StrChars
open Jvm Sem ClassFile Op Lib Jvm.Stand Jvm.Free.XT Jvm.Free.ALB Jvm.Free.JM Jvm.Free
open Jvm.Lib.Cold (StaticIs)
def hi8 (x : Int32) : Int32 := lo8 (x >>> ((8 : Int32) &&& 31))
/-- what StringUTF16.getChar makes of two bytes -/
def pairCh (u v : Int32) : Int32 := (((u &&& 255) <<< ((0 : Int32) &&& 31)) ||| ((v &&& 255) <<< ((8 : Int32) &&& 31))).toUInt32.toUInt16.toUInt32.toInt32
theorem lo8_and (x : Int32) : (lo8 x &&& 255).toBitVec.toNat = x.toBitVec.toNat % 256 := by
  have h : (lo8 x).toBitVec = (x.toBitVec.signExtend 8).signExtend 32 := by rw [lo8, Int8.toBitVec_toInt32, Int32.toBitVec_toInt8]
  rw [Int32.toBitVec_and, BitVec.toNat_and, h]
  have e : ((x.toBitVec.signExtend 8).signExtend 32).toNat % 256 = x.toBitVec.toNat % 256 := by
    rw [BitVec.toNat_signExtend]
    have hlt := x.toBitVec.isLt
    simp only [BitVec.toNat_setWidth, BitVec.toNat_signExtend]
    split <;> split <;> omega
  rw [← e]
  exact Nat.and_two_pow_sub_one_eq_mod _ 8
theorem pair_says {c : Int32} (h0 : ¬ c < 0) (h1 : ¬ 65535 < c) : pairCh (lo8 c) (hi8 c) = c := by
  rw [Int32.lt_iff_toInt_lt] at h0 h1
  have e0 : (0 : Int32).toInt = 0 := rfl
  have e1 : (65535 : Int32).toInt = 65535 := rfl
  have hc : c.toInt = c.toBitVec.toNat := by
    have := c.toBitVec.isLt
    have e : c.toInt = c.toBitVec.toInt := rfl
    rw [e] at h0 h1
    rw [e]
    rw [BitVec.toInt_eq_toNat_cond] at h0 h1 ⊢
    split at h0 <;> split <;> omega
  have hn : c.toBitVec.toNat < 65536 := by omega
  have a1 := lo8_and c
  have a2 : (hi8 c &&& 255).toBitVec.toNat = c.toBitVec.toNat / 256 := by
    rw [hi8, lo8_and]
    have e : ((8 : Int32) &&& 31) = 8 := by decide
    rw [e, Int32.toBitVec_shiftRight]
    have e2 : ((8 : Int32).toBitVec.smod 32) = 8#32 := by decide
    rw [e2, BitVec.sshiftRight_eq', BitVec.toNat_sshiftRight_of_msb_false (by rw [BitVec.msb_eq_false_iff_two_mul_lt]; omega)]
    show c.toBitVec.toNat >>> 8 % 256 = _
    rw [Nat.shiftRight_eq_div_pow]
    omega
  unfold pairCh
  apply Int32.toBitVec_inj.mp
  apply BitVec.eq_of_toNat_eq
  have f0 : ((0 : Int32) &&& 31) = 0 := by decide
  have f8 : ((8 : Int32) &&& 31) = 8 := by decide
  rw [f0, f8]
  have g : (((lo8 c &&& 255) <<< (0 : Int32)) ||| ((hi8 c &&& 255) <<< (8 : Int32))).toBitVec.toNat = c.toBitVec.toNat := by
    rw [Int32.toBitVec_or, Int32.toBitVec_shiftLeft, Int32.toBitVec_shiftLeft]
    have s0 : ((0 : Int32).toBitVec.smod 32) = 0#32 := by decide
    have s8 : ((8 : Int32).toBitVec.smod 32) = 8#32 := by decide
    rw [s0, s8, BitVec.toNat_or]
    simp only [BitVec.shiftLeft_eq', BitVec.toNat_shiftLeft, a1, a2]
    show (c.toBitVec.toNat % 256) <<< 0 % 2 ^ 32 ||| (c.toBitVec.toNat / 256) <<< 8 % 2 ^ 32 = _
    rw [Nat.shiftLeft_zero, Nat.mod_eq_of_lt (show c.toBitVec.toNat % 256 < 2 ^ 32 by omega), Nat.mod_eq_of_lt (show (c.toBitVec.toNat / 256) <<< 8 < 2 ^ 32 by rw [Nat.shiftLeft_eq]; omega), Nat.or_comm, ← Nat.shiftLeft_add_eq_or_of_lt (by omega), Nat.shiftLeft_eq]
    omega
  show BitVec.toNat (((((lo8 c &&& 255) <<< (0 : Int32)) ||| ((hi8 c &&& 255) <<< (8 : Int32))).toBitVec.setWidth 16).setWidth 32) = _
  rw [BitVec.toNat_setWidth, BitVec.toNat_setWidth, g]
  omega
end StrChars
namespace StrChars
open Jvm Sem ClassFile Op Lib Jvm.Stand Jvm.Free.XT Jvm.Free.ALB Jvm.Free.JM Jvm.Free
open Jvm.Lib.Cold (StaticIs)
/-- the array's cell V codes the n chars f 0 .. f (n - 1) by the coder cd, as the JDK does: coder 1 just where some char is above 255 -/
def Cod (cd : Int32) (n : Nat) (f : Nat → Int32) (V : Cell) : Prop := (cd = 0 ∧ V.slots.size = n ∧ ∀ j, j < n → V.slots[j]? = some (.int (lo8 (f j))) ∧ ¬ 255 < f j) ∨ (cd = 1 ∧ V.slots.size = 2 * n ∧ (∀ j, j < n → V.slots[2 * j]? = some (.int (lo8 (f j))) ∧ V.slots[2 * j + 1]? = some (.int (hi8 (f j)))) ∧ ∃ j, j < n ∧ 255 < f j)
/-- **x is a String of the n chars f 0 .. f (n - 1)**, Latin-1 or UTF-16; its array at t has the cell V -/
def Txt (x t : Addr) (V : Cell) (cd : Int32) (n : Nat) (f : Nat → Int32) (U : State) : Prop := Exact "java/lang/String" x U ∧ Has x "java/lang/String" "value" "[B" (.ref t) U ∧ Has x "java/lang/String" "coder" "B" (.int cd) U ∧ XT.Arr .byte t V U ∧ Cod cd n f V ∧ ∀ j, j < n → ¬ f j < 0 ∧ ¬ 65535 < f j
theorem Txt.mv {x t : Addr} {V : Cell} {cd : Int32} {n : Nat} {f : Nat → Int32} {U U' : State} (h : Txt x t V cd n f U) (hal : U.vm.Alike U'.vm) (hh : U'.heap = U.heap) : Txt x t V cd n f U' := ⟨h.1.mv hal hh, h.2.1.mv hal hh, h.2.2.1.mv hal hh, h.2.2.2.1.mv hal hh, h.2.2.2.2⟩
end StrChars
namespace StrChars.Road
open Jvm Sem ClassFile Op Lib Jvm.Stand Jvm.Free Jvm.Free.XT
open Jvm.Lib.Cold (StaticIs)
theorem consq {a : Array Value} {s : State} {c : Jvm.Cond} {L : List Jvm.Cond} (h0 : c.before a s = true) (h : ∀ w ∈ L, w.before a s = true) : ∀ w ∈ c :: L, w.before a s = true := fun w hw => (List.mem_cons.mp hw).elim (fun e => e ▸ h0) (h w)
/-- the bytes of the chars cs, low before high -/
def wideBytes : List Int32 → List Value
  | [] => []
  | c :: cs => .int (lo8 c) :: .int (hi8 c) :: wideBytes cs
theorem wide_lo (d : Value) : ∀ (cs : List Int32) (j : Nat), j < cs.length → (wideBytes cs).getD (2 * j) d = .int (lo8 (cs.getD j 0))
  | [], j, h => absurd h (Nat.not_lt_zero j)
  | c :: cs, 0, _ => rfl
  | c :: cs, j + 1, h => by
    have q := wide_lo d cs j (by simpa using h)
    rw [show 2 * (j + 1) = 2 * j + 1 + 1 from by omega]
    simpa [wideBytes] using q
theorem wide_hi (d : Value) : ∀ (cs : List Int32) (j : Nat), j < cs.length → (wideBytes cs).getD (2 * j + 1) d = .int (hi8 (cs.getD j 0))
  | [], j, h => absurd h (Nat.not_lt_zero j)
  | c :: cs, 0, _ => rfl
  | c :: cs, j + 1, h => by
    have q := wide_hi d cs j (by simpa using h)
    rw [show 2 * (j + 1) + 1 = 2 * j + 1 + 1 + 1 from by omega]
    simpa [wideBytes] using q
theorem low_at (d : Value) (cs : List Int32) (j : Nat) (h : j < cs.length) : (cs.map fun c => Value.int (lo8 c)).getD j d = .int (lo8 (cs.getD j 0)) := by
  simp [List.getD_eq_getElem?_getD, h]
/-- an array of N2 bytes vs codes the chars cs by the coder cd -/
def CodA (cs : List Int32) (cd N2 : Int32) (vs : List Value) : Prop := (cd = 0 ∧ N2 = Int32.ofNat cs.length ∧ vs = (cs.map fun c => Value.int (lo8 c)) ∧ ∀ c ∈ cs, ¬ 255 < c) ∨ (cd = 1 ∧ N2 = Int32.ofNat (2 * cs.length) ∧ vs = wideBytes cs ∧ ∃ c ∈ cs, 255 < c)
theorem CodA.cod {cs : List Int32} {cd N2 : Int32} {vs : List Value} {V : Cell} (h : CodA cs cd N2 vs) (hn : 2 * cs.length < 2 ^ 31) (hs : V.slots.size = N2.toNatClampNeg) (hv : RoadKit.Has V vs (.int 0)) : Cod cd cs.length (fun j => cs.getD j 0) V := by
  rcases h with ⟨rfl, rfl, rfl, h⟩ | ⟨rfl, rfl, rfl, c, hc, hw⟩
  · rw [n32 (by omega)] at hs
    exact Or.inl ⟨rfl, hs, fun j hj => ⟨by rw [hv j (by omega), low_at _ _ _ hj], by
      have e : cs.getD j 0 = cs[j] := by simp [List.getD_eq_getElem?_getD, hj]
      show ¬ 255 < cs.getD j 0
      rw [e]; exact h _ (List.getElem_mem _)⟩⟩
  · rw [n32 (by omega)] at hs
    obtain ⟨j, hj, rfl⟩ := List.getElem_of_mem hc
    exact Or.inr ⟨rfl, hs, fun j hj => ⟨by rw [hv _ (by omega), wide_lo _ _ _ hj], by rw [hv _ (by omega), wide_hi _ _ _ hj]⟩, j, hj, by
      have e : cs.getD j 0 = cs[j] := by simp [List.getD_eq_getElem?_getD, hj]
      show 255 < cs.getD j 0
      rw [e]; exact hw⟩
/-- an object of exactly java/lang/String, its two fields found: as the laws ask it -/
theorem strObj {Z U : State} {a0 : Array Value} {kI : Nat} (wi : (Jvm.Cond.instantiable ST kI).before a0 Z = true) (al : Z.vm.Alike U.vm) {x : Addr} {v0 c0 : Value} (E : RoadKit.Exa Z U.heap x ST) (V : RoadKit.Fld Z U.heap x ST "value" "[B" v0) (C : RoadKit.Fld Z U.heap x ST "coder" "B" c0) :
    ∃ (D : Cell) (fV fC : Field), Blank ST x D U ∧ Found ST "value" "[B" fV U ∧ Found ST "coder" "B" fC U ∧ D.slots[fV.slot]? = some v0 ∧ D.slots[fC.slot]? = some c0 ∧ RoadKit.slotOf Z ST "value" "[B" = fV.slot ∧ RoadKit.slotOf Z ST "coder" "B" = fC.slot := by
  obtain ⟨D, cfV, kV, iV, fV, hD, gV, stV, knV, obV, asV, slV⟩ := V
  obtain ⟨D', cfC, kC, iC, fC, hD', gC, stC, -, -, asC, slC⟩ := C
  cases hD.symm.trans hD'
  obtain ⟨D2, kD, e1, e2, e3, e4, e5⟩ := E
  cases hD.symm.trans e1
  obtain ⟨c2, k2, i1, i2, i3, -⟩ := Cond.instantiable_spec wi
  cases e2.symm.trans i1
  cases e3.symm.trans i2
  obtain ⟨kU, u1, u2⟩ := al.2.2 _ _ e3
  exact ⟨D, fV, fC, ⟨hD, ⟨knV, fun q hq => by rw [hq] at obV; cases obV⟩, by rw [al.findClass]; exact e2, kU, u1, by rw [u2]; exact i3, by rw [u2]; exact e5 i3⟩, ⟨SBG.found_only al ⟨cfV, kV, iV, gV⟩, stV⟩, ⟨SBG.found_only al ⟨cfC, kC, iC, gC⟩, stC⟩, slV, slC, by simp [RoadKit.slotOf, gV], by simp [RoadKit.slotOf, gC]⟩
theorem sta_is {Z U : State} (al : Z.vm.Alike U.vm) {C n d : String} {v : Value} (S : RoadKit.Sta Z U.heap C n d v) : StaticIs U C n d v := by
  obtain ⟨cfS, iS, kS, fS, st, cS, t1, t2, t3, t4, t5, t6, t7⟩ := S
  exact StaticIs.there (s := { Z with heap := U.heap }) ⟨cfS, iS, kS, fS, st, cS, t1, t2, t3, t4, t5, (fun q => by rw [q] at t6; cases t6), t7⟩ al rfl
end StrChars.Road
namespace StrChars
open Jvm Sem ClassFile Op Lib Jvm.Stand Jvm.Free.XT Jvm.Free.ALB Jvm.Free.JM Jvm.Free
open Jvm.Lib.Cold (StaticIs)
/-- what place i of a byte[]'s cell holds -/
def yv (A : Cell) (i : Nat) : Int32 := match A.slots[i]? with | some (.int x) => x | _ => 0
theorem yv_get {a : Addr} {A : Cell} {U : State} (h : XT.Arr .byte a A U) (ht : Typed .byte A) {i : Nat} (hi : i < A.slots.size) : A.slots[i]? = some (.int (yv A i)) := by
  have e := Array.getElem?_eq_getElem hi
  have f := ht i _ e
  unfold yv; rw [e]
  generalize A.slots[i] = v at f
  cases v <;> simp [fits] at f ⊢
/-- the two arrays are equal, place for place -/
def EqC (A B : Cell) : Prop := A.slots.size = B.slots.size ∧ ∀ i, i < A.slots.size → yv A i = yv B i
/-- a boolean that says whether p -/
def Says01 (q : Prop) (r : Option Value) (s u : State) : Prop := ∃ v : Int32, r = some (.int v) ∧ u.heap = s.heap ∧ ((v = 1 ∧ q) ∨ (v = 0 ∧ ¬ q))
theorem Says01.mv {q : Prop} : ∀ r (U U' V V' : State), U'.heap = U.heap → V.vm.Alike V'.vm → V'.heap = V.heap → Says01 q r U V → Says01 q r U' V' :=
  fun r U U' V V' h1 _ h2 ⟨v, a, b, c⟩ => ⟨v, a, by rw [h1, h2]; exact b, c⟩
namespace LEq
def yN : MethodName := ⟨"java/lang/StringLatin1", "equals", "([B[B)Z"⟩
abbrev yB : ByteArray := jdk_43_method_13_code
theorem d0 : decode yB 0 = .ok (.aload_n 0, 1) := by decide +kernel
theorem d1 : decode yB 1 = .ok (.arraylength, 1) := by decide +kernel
theorem d2 : decode yB 2 = .ok (.aload_n 1, 1) := by decide +kernel
theorem d3 : decode yB 3 = .ok (.arraylength, 1) := by decide +kernel
theorem d4 : decode yB 4 = .ok (.if_icmp (.ne) 30, 3) := by decide +kernel
theorem d7 : decode yB 7 = .ok (.iconst 0, 1) := by decide +kernel
theorem d8 : decode yB 8 = .ok (.istore_n 2, 1) := by decide +kernel
theorem d9 : decode yB 9 = .ok (.iload_n 2, 1) := by decide +kernel
theorem d10 : decode yB 10 = .ok (.aload_n 0, 1) := by decide +kernel
theorem d11 : decode yB 11 = .ok (.arraylength, 1) := by decide +kernel
theorem d12 : decode yB 12 = .ok (.if_icmp (.ge) 20, 3) := by decide +kernel
theorem d15 : decode yB 15 = .ok (.aload_n 0, 1) := by decide +kernel
theorem d16 : decode yB 16 = .ok (.iload_n 2, 1) := by decide +kernel
theorem d17 : decode yB 17 = .ok (.baload, 1) := by decide +kernel
theorem d18 : decode yB 18 = .ok (.aload_n 1, 1) := by decide +kernel
theorem d19 : decode yB 19 = .ok (.iload_n 2, 1) := by decide +kernel
theorem d20 : decode yB 20 = .ok (.baload, 1) := by decide +kernel
theorem d21 : decode yB 21 = .ok (.if_icmp (.eq) 5, 3) := by decide +kernel
theorem d24 : decode yB 24 = .ok (.iconst 0, 1) := by decide +kernel
theorem d25 : decode yB 25 = .ok (.ireturn, 1) := by decide +kernel
theorem d26 : decode yB 26 = .ok (.iinc 2 1, 3) := by decide +kernel
theorem d29 : decode yB 29 = .ok (.goto (-20), 3) := by decide +kernel
theorem d32 : decode yB 32 = .ok (.iconst 1, 1) := by decide +kernel
theorem d33 : decode yB 33 = .ok (.ireturn, 1) := by decide +kernel
theorem d34 : decode yB 34 = .ok (.iconst 0, 1) := by decide +kernel
theorem d35 : decode yB 35 = .ok (.ireturn, 1) := by decide +kernel
def site : List Cond := []
def tab : Cond := tabOf yN yB 3 (some .boolean) site
def P (a : Addr) (A : Cell) (b : Addr) (B : Cell) (args : Array Value) (s : State) : Prop := args = #[.ref a, .ref b] ∧ XT.Arr .byte a A s ∧ Typed .byte A ∧ XT.Arr .byte b B s ∧ Typed .byte B
/-- whether two byte[] are equal, place for place -/
theorem law (l : Launch) (a : Addr) (A : Cell) (b : Addr) (B : Cell) : Law l yN 2 2 0 0 yB 3 (some .boolean) site (P a A b B) (Says01 (EqC A B)) [] 0 0 := by
  refine Law.of_walk (plainFor_of_name (by decide +kernel)) (by decide +kernel) (by decide +kernel) (by decide) (fun _ _ h => by rw [h.1]; rfl) (fun _ U U' hal hh h => ⟨h.1, h.2.1.mv hal hh, h.2.2.1, h.2.2.2.1.mv hal hh, h.2.2.2.2⟩) (fun r U U' V V' h1 hal h2 h => Says01.mv r U U' V V' h1 hal h2 h) ?_
  intro p e s m args below meth c s₁ X0 hexec hbytes hml hret hlk hnm hown hh0 W hP
  obtain ⟨rfl, hA, tA, hB, tB⟩ := hP
  have a31 := hA.2.2.2
  have b31 := hB.2.2.2
  have hA0 := hA.mv X0.warmed.alike hh0
  have hB0 := hB.mv X0.warmed.alike hh0
  have c1 : Steps p.tables e below (s₁.setTop (entryFrame m #[.ref a, .ref b] 3)) (s₁.setTop (mkF m 0 #[.val (.ref a), .val (.ref b), .unset] [])) := entry rfl
  have c2 : Steps p.tables e below (s₁.setTop (entryFrame m #[.ref a, .ref b] 3)) (s₁.setTop (mkF m 4 #[.val (.ref a), .val (.ref b), .unset] [.int (Int32.ofNat B.slots.size), .int (Int32.ofNat A.slots.size)])) := c1.trans (by
    refine XS.aloadN X0.here hexec rfl (hb hbytes d0) rfl rfl ?_
    refine X0.alen hexec hA0 rfl rfl (hb hbytes d1) ?_
    refine XS.aloadN X0.here hexec rfl (hb hbytes d2) rfl rfl ?_
    refine X0.alen hexec hB0 rfl rfl (hb hbytes d3) ?_
    exact Steps.refl _)
  by_cases hs : A.slots.size = B.slots.size
  · have c3 : Steps p.tables e below (s₁.setTop (entryFrame m #[.ref a, .ref b] 3)) (s₁.setTop (mkF m 9 #[.val (.ref a), .val (.ref b), .val (.int 0)] [])) := c2.trans (by
      refine XS.icmpNo X0.here hexec rfl (hb hbytes d4) rfl (ii_ne_f (by rw [hs])) ?_
      refine iconstV X0.here hexec rfl 0 (hb hbytes d7) (by decide) ?_
      refine XS.istoreN X0.here hexec rfl (hb hbytes d8) rfl rfl ?_
      exact Steps.refl _)
    have loop : ∀ (r i : Nat), i + r = A.slots.size → (∀ j, j < i → yv A j = yv B j) → Steps p.tables e below (s₁.setTop (entryFrame m #[.ref a, .ref b] 3)) (s₁.setTop (mkF m 9 #[.val (.ref a), .val (.ref b), .val (.int (Int32.ofNat i))] [])) → ∃ (pc : Nat) (Ls : Array Slot) (v : Int32), (pc = 25 ∨ pc = 33) ∧ ((v = 1 ∧ EqC A B) ∨ (v = 0 ∧ ¬ EqC A B)) ∧ Steps p.tables e below (s₁.setTop (entryFrame m #[.ref a, .ref b] 3)) (s₁.setTop (mkF m pc Ls [.int v])) := by
      intro r
      induction r with
      | zero =>
        intro i hi he cl
        exact ⟨33, _, 1, Or.inr rfl, Or.inl ⟨rfl, hs, fun j hj => he j (by omega)⟩, cl.trans (by
          refine XS.iloadN X0.here hexec rfl (hb hbytes d9) rfl ?_
          refine XS.aloadN X0.here hexec rfl (hb hbytes d10) rfl rfl ?_
          refine X0.alen hexec hA0 rfl rfl (hb hbytes d11) ?_
          refine XS.icmpYes X0.here hexec rfl (pc0 := 12) rfl (hb hbytes d12) rfl (ii_ge_t (nlt32 (by omega) (by omega))) (by decide) rfl ?_
          refine iconstV X0.here hexec rfl 1 (hb hbytes d32) (by decide) ?_
          exact Steps.refl _)⟩
      | succ r ih =>
        intro i hi he cl
        have c4 : Steps p.tables e below (s₁.setTop (entryFrame m #[.ref a, .ref b] 3)) (s₁.setTop (mkF m 21 #[.val (.ref a), .val (.ref b), .val (.int (Int32.ofNat i))] [.int (yv B i), .int (yv A i)])) := cl.trans (by
          refine XS.iloadN X0.here hexec rfl (hb hbytes d9) rfl ?_
          refine XS.aloadN X0.here hexec rfl (hb hbytes d10) rfl rfl ?_
          refine X0.alen hexec hA0 rfl rfl (hb hbytes d11) ?_
          refine XS.icmpNo X0.here hexec rfl (hb hbytes d12) rfl (ii_ge_f (lt32 (by omega) (by omega))) ?_
          refine XS.aloadN X0.here hexec rfl (hb hbytes d15) rfl rfl ?_
          refine XS.iloadN X0.here hexec rfl (hb hbytes d16) rfl ?_
          refine X0.aget hexec hA0 rfl (yv_get hA tA (i := i) (by omega)) rfl rfl (hb hbytes d17) ?_
          refine XS.aloadN X0.here hexec rfl (hb hbytes d18) rfl rfl ?_
          refine XS.iloadN X0.here hexec rfl (hb hbytes d19) rfl ?_
          refine X0.aget hexec hB0 rfl (yv_get hB tB (i := i) (by omega)) rfl rfl (hb hbytes d20) ?_
          exact Steps.refl _)
        by_cases hv : yv A i = yv B i
        · have c5 : Steps p.tables e below (s₁.setTop (entryFrame m #[.ref a, .ref b] 3)) (s₁.setTop (mkF m 9 #[.val (.ref a), .val (.ref b), .val (.int (Int32.ofNat i + 1))] [])) := c4.trans (by
            refine XS.icmpYes X0.here hexec rfl (pc0 := 21) rfl (hb hbytes d21) rfl (ii_eq_t hv) (by decide) rfl ?_
            refine iincV X0.here hexec rfl 1 (hb hbytes d26) (by decide) rfl rfl ?_
            refine XS.goto X0.here hexec rfl (pc0 := 29) rfl (hb hbytes d29) (by decide) rfl ?_
            exact Steps.refl _)
          rw [succ32] at c5
          exact ih (i + 1) (by omega) (fun j hj => by
            by_cases e : j = i
            · rw [e]; exact hv
            · exact he j (by omega)) c5
        · exact ⟨25, _, 0, Or.inl rfl, Or.inr ⟨rfl, fun q => hv (q.2 i (by omega))⟩, c4.trans (by
            refine XS.icmpNo X0.here hexec rfl (hb hbytes d21) rfl (ii_eq_f hv) ?_
            refine iconstV X0.here hexec rfl 0 (hb hbytes d24) (by decide) ?_
            exact Steps.refl _)⟩
    obtain ⟨pc, Ls, v, hpc, hv, cz⟩ := loop A.slots.size 0 (by omega) (fun j hj => absurd hj (Nat.not_lt_zero j)) c3
    have nv : narrow .boolean (.int v) = .int v := by rcases hv with ⟨rfl, -⟩ | ⟨rfl, -⟩ <;> rfl
    rcases hpc with rfl | rfl
    · exact ⟨s₁, some (.int v), _, _, _, X0, rfl, rfl, rfl, (fun h => by cases h), ⟨v, rfl, hh0, hv⟩, fun fs hl => cz.trans (X0.ireturnOut hexec hret nv (Or.inr (Or.inl rfl)) (hb hbytes d25) hl)⟩
    · exact ⟨s₁, some (.int v), _, _, _, X0, rfl, rfl, rfl, (fun h => by cases h), ⟨v, rfl, hh0, hv⟩, fun fs hl => cz.trans (X0.ireturnOut hexec hret nv (Or.inr (Or.inl rfl)) (hb hbytes d33) hl)⟩
  · have c3 : Steps p.tables e below (s₁.setTop (entryFrame m #[.ref a, .ref b] 3)) (s₁.setTop (mkF m 35 #[.val (.ref a), .val (.ref b), .unset] [.int 0])) := c2.trans (by
      refine XS.icmpYes X0.here hexec rfl (pc0 := 4) rfl (hb hbytes d4) rfl (ii_ne_t (ne32 a31 b31 hs)) (by decide) rfl ?_
      refine iconstV X0.here hexec rfl 0 (hb hbytes d34) (by decide) ?_
      exact Steps.refl _)
    exact ⟨s₁, some (.int 0), _, _, _, X0, rfl, rfl, rfl, (fun h => by cases h), ⟨0, rfl, hh0, Or.inr ⟨rfl, fun q => hs q.1⟩⟩, fun fs hl => c3.trans (X0.ireturnOut hexec hret rfl (Or.inr (Or.inl rfl)) (hb hbytes d35) hl)⟩
end LEq
theorem Cod.ty {cd : Int32} {n : Nat} {f : Nat → Int32} {V : Cell} (h : Cod cd n f V) : Typed .byte V := fun i v hv => by
  have hi : i < V.slots.size := (Array.getElem?_eq_some_iff.mp hv).1
  rcases h with ⟨-, k1, k2⟩ | ⟨-, k1, k2, -⟩
  · rw [(k2 i (by omega)).1] at hv; cases hv; exact fits_lo8 _
  · rcases Nat.mod_two_eq_zero_or_one i with e | e
    · obtain ⟨j, rfl⟩ : ∃ j, i = 2 * j := ⟨i / 2, by omega⟩
      rw [(k2 j (by omega)).1] at hv; cases hv; exact fits_lo8 _
    · obtain ⟨j, rfl⟩ : ∃ j, i = 2 * j + 1 := ⟨i / 2, by omega⟩
      rw [(k2 j (by omega)).2] at hv; cases hv; exact fits_lo8 _
/-- the same text -/
def SameT (n : Nat) (f : Nat → Int32) (k : Nat) (g : Nat → Int32) : Prop := n = k ∧ ∀ j, j < n → f j = g j
theorem lo8_inj {x y : Int32} (h0 : ¬ x < 0) (h1 : ¬ 255 < x) (k0 : ¬ y < 0) (k1 : ¬ 255 < y) (h : lo8 x = lo8 y) : x = y := by
  rw [← lo8_mask h0 h1, ← lo8_mask k0 k1, h]
/-- arrays coded by one coder are equal just where the texts are -/
theorem Cod.eqv {cd : Int32} {n k : Nat} {f g : Nat → Int32} {V V' : Cell} (h : Cod cd n f V) (h' : Cod cd k g V') (hf : ∀ j, j < n → ¬ f j < 0 ∧ ¬ 65535 < f j) (hg : ∀ j, j < k → ¬ g j < 0 ∧ ¬ 65535 < g j) : EqC V V' ↔ SameT n f k g := by
  have yvv : ∀ {W : Cell} {i : Nat} {x : Int32}, W.slots[i]? = some (.int x) → yv W i = x := fun q => by unfold yv; rw [q]
  rcases h with ⟨rfl, k1, k2⟩ | ⟨rfl, k1, k2, -⟩
  · rcases h' with ⟨-, m1, m2⟩ | ⟨e, -⟩
    · constructor
      · rintro ⟨e1, e2⟩
        refine ⟨by omega, fun j hj => ?_⟩
        have q := e2 j (by omega)
        rw [yvv (k2 j hj).1, yvv (m2 j (by omega)).1] at q
        exact lo8_inj (hf j hj).1 (k2 j hj).2 (hg j (by omega)).1 (m2 j (by omega)).2 q
      · rintro ⟨rfl, e2⟩
        refine ⟨by omega, fun j hj => ?_⟩
        rw [yvv (k2 j (by omega)).1, yvv (m2 j (by omega)).1, e2 j (by omega)]
    · exact absurd e (by decide)
  · rcases h' with ⟨e, -⟩ | ⟨-, m1, m2, -⟩
    · exact absurd e (by decide)
    · constructor
      · rintro ⟨e1, e2⟩
        refine ⟨by omega, fun j hj => ?_⟩
        have q1 := e2 (2 * j) (by omega)
        have q2 := e2 (2 * j + 1) (by omega)
        rw [yvv (k2 j hj).1, yvv (m2 j (by omega)).1] at q1
        rw [yvv (k2 j hj).2, yvv (m2 j (by omega)).2] at q2
        rw [← pair_says (hf j hj).1 (hf j hj).2, ← pair_says (hg j (by omega)).1 (hg j (by omega)).2, q1, q2]
      · rintro ⟨rfl, e2⟩
        refine ⟨by omega, fun i hi => ?_⟩
        rcases Nat.mod_two_eq_zero_or_one i with e | e
        · obtain ⟨j, rfl⟩ : ∃ j, i = 2 * j := ⟨i / 2, by omega⟩
          rw [yvv (k2 j (by omega)).1, yvv (m2 j (by omega)).1, e2 j (by omega)]
        · obtain ⟨j, rfl⟩ : ∃ j, i = 2 * j + 1 := ⟨i / 2, by omega⟩
          rw [yvv (k2 j (by omega)).2, yvv (m2 j (by omega)).2, e2 j (by omega)]
/-- two codings differ: so do the texts -/
theorem Cod.dif {cd cd' : Int32} {n k : Nat} {f g : Nat → Int32} {V V' : Cell} (h : Cod cd n f V) (h' : Cod cd' k g V') (hne : ¬ cd = cd') : ¬ SameT n f k g := by
  rintro ⟨rfl, e⟩
  rcases h with ⟨rfl, -, k2⟩ | ⟨rfl, -, -, j, hj, hw⟩
  · rcases h' with ⟨rfl, -⟩ | ⟨-, -, -, j, hj, hw⟩
    · exact hne rfl
    · exact (k2 j hj).2 (by rw [e j hj]; exact hw)
  · rcases h' with ⟨-, -, m2⟩ | ⟨rfl, -⟩
    · exact (m2 j hj).2 (by rw [← e j hj]; exact hw)
    · exact hne rfl
/-- an object of exactly C is an instance of C -/
theorem cinst {p : Program} {l : Launch} {e : Env} {R : Room} {s : State} {m : MethodId} {args : Array Value} {below : List Frame} {meth : Method} {c : Code} {T : State} {locs : List Loc} {cells slots : Nat} (X : Stand p l e R s m args below meth c T locs cells slots) (hexec : p.tables.exec = Jvm.exec) {own C : String} {index : Nat} (hown : s.vm.findClass own = some m.cls) (hlink : (Cond.classLink own index C).before args s = true) {a : Addr} (hE : Exact C a T)
    {g : JFrame} (hg : g.method = m) {rest : List Value} (hstack : g.stack = .ref a :: rest) (hdg : decode c.code g.pc = .ok (.instanceof index, 3)) :
    ∃ T', Stand p l e R s m args below meth c T' locs cells slots ∧ T'.heap = T.heap ∧ ∀ target, Steps p.tables e below (T'.setTop { g with pc := g.pc + 3, stack := .int 1 :: rest }) target → Steps p.tables e below (T.setTop g) target := by
  obtain ⟨cB, h1, D, h2, h3, h4⟩ := hE
  have h1' : s.vm.findClass C = some cB := by rw [← X.warmed.alike.findClass]; exact h1
  obtain ⟨vm', X', st⟩ := X.instanceofYes hexec hown hlink h2 h4 h1' (by rw [h3]; exact Jvm.Free.SB.assignable_self _ _) hg hstack hdg
  exact ⟨_, X', rfl, st⟩
theorem cself {p : Program} {l : Launch} {e : Env} {R : Room} {s : State} {m : MethodId} {args : Array Value} {below : List Frame} {meth : Method} {c : Code} {T : State} {locs : List Loc} {cells slots : Nat} (X : Stand p l e R s m args below meth c T locs cells slots) (hexec : p.tables.exec = Jvm.exec) {own C : String} {index : Nat} (hown : s.vm.findClass own = some m.cls) (hlink : (Cond.classLink own index C).before args s = true) {a : Addr} (hE : Exact C a T)
    {g : JFrame} (hg : g.method = m) {rest : List Value} (hstack : g.stack = .ref a :: rest) (hdg : decode c.code g.pc = .ok (.checkcast index, 3)) :
    ∃ T', Stand p l e R s m args below meth c T' locs cells slots ∧ T'.heap = T.heap ∧ ∀ target, Steps p.tables e below (T'.setTop { g with pc := g.pc + 3, stack := .ref a :: rest }) target → Steps p.tables e below (T.setTop g) target := by
  obtain ⟨cB, h1, D, h2, h3, h4⟩ := hE
  have h1' : s.vm.findClass C = some cB := by rw [← X.warmed.alike.findClass]; exact h1
  obtain ⟨vm', X', st⟩ := X.checkcastYes hexec hown hlink h2 h4 h1' (by rw [h3]; exact Jvm.Free.SB.assignable_self _ _) hg hstack hdg
  exact ⟨_, X', rfl, fun t h => st t (by rw [← hstack] at h; exact h)⟩
namespace SEq
def yN : MethodName := ⟨"java/lang/String", "equals", "(Ljava/lang/Object;)Z"⟩
abbrev yB : ByteArray := jdk_42_method_66_code
theorem d0 : decode yB 0 = .ok (.aload_n 0, 1) := by decide +kernel
theorem d1 : decode yB 1 = .ok (.aload_n 1, 1) := by decide +kernel
theorem d2 : decode yB 2 = .ok (.if_acmp (.ne) 5, 3) := by decide +kernel
theorem d5 : decode yB 5 = .ok (.iconst 1, 1) := by decide +kernel
theorem d6 : decode yB 6 = .ok (.ireturn, 1) := by decide +kernel
theorem d7 : decode yB 7 = .ok (.aload_n 1, 1) := by decide +kernel
theorem d8 : decode yB 8 = .ok (.instanceof 10, 3) := by decide +kernel
theorem d11 : decode yB 11 = .ok (.ifCond (.eq) 43, 3) := by decide +kernel
theorem d14 : decode yB 14 = .ok (.aload_n 1, 1) := by decide +kernel
theorem d15 : decode yB 15 = .ok (.checkcast 10, 3) := by decide +kernel
theorem d18 : decode yB 18 = .ok (.astore_n 2, 1) := by decide +kernel
theorem d19 : decode yB 19 = .ok (.getstatic 38, 3) := by decide +kernel
theorem d22 : decode yB 22 = .ok (.ifCond (.eq) 14, 3) := by decide +kernel
theorem d25 : decode yB 25 = .ok (.aload_n 0, 1) := by decide +kernel
theorem d26 : decode yB 26 = .ok (.getfield 15, 3) := by decide +kernel
theorem d29 : decode yB 29 = .ok (.aload_n 2, 1) := by decide +kernel
theorem d30 : decode yB 30 = .ok (.getfield 15, 3) := by decide +kernel
theorem d33 : decode yB 33 = .ok (.if_icmp (.ne) 21, 3) := by decide +kernel
theorem d36 : decode yB 36 = .ok (.aload_n 0, 1) := by decide +kernel
theorem d37 : decode yB 37 = .ok (.getfield 9, 3) := by decide +kernel
theorem d40 : decode yB 40 = .ok (.aload_n 2, 1) := by decide +kernel
theorem d41 : decode yB 41 = .ok (.getfield 9, 3) := by decide +kernel
theorem d44 : decode yB 44 = .ok (.invokestatic 541, 3) := by decide +kernel
theorem d47 : decode yB 47 = .ok (.ifCond (.eq) 7, 3) := by decide +kernel
theorem d50 : decode yB 50 = .ok (.iconst 1, 1) := by decide +kernel
theorem d51 : decode yB 51 = .ok (.goto 4, 3) := by decide +kernel
theorem d54 : decode yB 54 = .ok (.iconst 0, 1) := by decide +kernel
theorem d55 : decode yB 55 = .ok (.ireturn, 1) := by decide +kernel
def site : List Cond := [.classLink "java/lang/String" 10 "java/lang/String", .fieldLink "java/lang/String" 38 "java/lang/String" "COMPACT_STRINGS" "Z", .fieldLink "java/lang/String" 15 "java/lang/String" "coder" "B", .fieldLink "java/lang/String" 9 "java/lang/String" "value" "[B", LEq.tab] ++ staticW "java/lang/String" 541 LEq.yN
def tab : Cond := tabOf yN yB 3 (some .boolean) site
def P (x t : Addr) (V : Cell) (cd : Int32) (n : Nat) (f : Nat → Int32) (y t' : Addr) (V' : Cell) (cd' : Int32) (k : Nat) (g : Nat → Int32) (z : Int32) (args : Array Value) (s : State) : Prop := args = #[.ref x, .ref y] ∧ Txt x t V cd n f s ∧ Txt y t' V' cd' k g s ∧ StaticIs s "java/lang/String" "COMPACT_STRINGS" "Z" (.int z) ∧ ¬ z = 0
/-- equals(Object) of two Strings: whether the texts are the same -/
theorem law (l : Launch) (x t : Addr) (V : Cell) (cd : Int32) (n : Nat) (f : Nat → Int32) (y t' : Addr) (V' : Cell) (cd' : Int32) (k : Nat) (g : Nat → Int32) (z : Int32) : Law l yN 2 1 1 14 yB 3 (some .boolean) site (P x t V cd n f y t' V' cd' k g z) (Says01 (SameT n f k g)) [] 0 0 := by
  refine Law.of_walk (plainFor_of_name (by decide +kernel)) (by decide +kernel) (by decide +kernel) (by decide) (fun _ _ h => by rw [h.1]; rfl) (fun _ U U' hal hh h => ⟨h.1, h.2.1.mv hal hh, h.2.2.1.mv hal hh, h.2.2.2.1.there hal hh, h.2.2.2.2⟩) (fun r U U' V V' h1 hal h2 h => Says01.mv r U U' V V' h1 hal h2 h) ?_
  intro p e s m args below meth c s₁ X0 hexec hbytes hml hret hlk hnm hown hh0 W hP
  obtain ⟨rfl, hx, hy, s1, hz⟩ := hP
  have c1 : Steps p.tables e below (s₁.setTop (entryFrame m #[.ref x, .ref y] 3)) (s₁.setTop (mkF m 2 #[.val (.ref x), .val (.ref y), .unset] [.ref y, .ref x])) := Steps.trans (entry rfl) (by
    show Steps p.tables e below (s₁.setTop (mkF m 0 #[.val (.ref x), .val (.ref y), .unset] [])) _
    refine XS.aloadN X0.here hexec rfl (hb hbytes d0) rfl rfl ?_
    refine XS.aloadN X0.here hexec rfl (hb hbytes d1) rfl rfl ?_
    exact Steps.refl _)
  by_cases hxy : x = y
  · have c2 : Steps p.tables e below (s₁.setTop (entryFrame m #[.ref x, .ref y] 3)) (s₁.setTop (mkF m 6 #[.val (.ref x), .val (.ref y), .unset] [.int 1])) := c1.trans (by
      refine acmpNo X0.here hexec rfl (hb hbytes d2) rfl rfl rfl (by simp [acmp, hxy]) ?_
      refine iconstV X0.here hexec rfl 1 (hb hbytes d5) (by decide) ?_
      exact Steps.refl _)
    subst hxy
    have ec : cd = cd' := by
      obtain ⟨D, fd, a1, a2, a3⟩ := hx.2.2.1
      obtain ⟨D', fd', b1, b2, b3⟩ := hy.2.2.1
      cases a1.symm.trans b1
      obtain ⟨q1, q2, q3, q4⟩ := a2.1
      obtain ⟨r1, r2, r3, r4⟩ := b2.1
      cases q4.symm.trans r4
      cases a3.symm.trans b3; rfl
    have et : t = t' := by
      obtain ⟨D, fd, a1, a2, a3⟩ := hx.2.1
      obtain ⟨D', fd', b1, b2, b3⟩ := hy.2.1
      cases a1.symm.trans b1
      obtain ⟨q1, q2, q3, q4⟩ := a2.1
      obtain ⟨r1, r2, r3, r4⟩ := b2.1
      cases q4.symm.trans r4
      cases a3.symm.trans b3; rfl
    subst ec et
    have ev : V = V' := by cases hx.2.2.2.1.1.symm.trans hy.2.2.2.1.1; rfl
    subst ev
    have hs : SameT n f k g := (Cod.eqv hx.2.2.2.2.1 hy.2.2.2.2.1 hx.2.2.2.2.2 hy.2.2.2.2.2).mp ⟨rfl, fun _ _ => rfl⟩
    exact ⟨s₁, some (.int 1), _, _, _, X0, rfl, rfl, rfl, (fun h => by cases h), ⟨1, rfl, hh0, Or.inl ⟨rfl, hs⟩⟩, fun fs hl => c2.trans (X0.ireturnOut hexec hret rfl (Or.inr (Or.inl rfl)) (hb hbytes d6) hl)⟩
  · have c2 : Steps p.tables e below (s₁.setTop (entryFrame m #[.ref x, .ref y] 3)) (s₁.setTop (mkF m 8 #[.val (.ref x), .val (.ref y), .unset] [.ref y])) := c1.trans (by
      refine acmpYes X0.here hexec rfl (pc0 := 2) rfl (hb hbytes d2) rfl rfl rfl (by simp [acmp, hxy]) (by decide) rfl ?_
      refine XS.aloadN X0.here hexec rfl (hb hbytes d7) rfl rfl ?_
      exact Steps.refl _)
    obtain ⟨T3, X3, q3, st3⟩ := cinst X0 hexec hown (wk W (.classLink "java/lang/String" 10 "java/lang/String")) (hy.mv X0.warmed.alike hh0).1 (g := (mkF m 8 #[.val (.ref x), .val (.ref y), .unset] [.ref y])) rfl (rest := []) rfl (hb hbytes d8)
    have hh3 := q3.trans hh0
    have c4 : Steps p.tables e below (s₁.setTop (entryFrame m #[.ref x, .ref y] 3)) (T3.setTop (mkF m 15 #[.val (.ref x), .val (.ref y), .unset] [.ref y])) := (c2.trans (st3 _ (Steps.refl _))).trans (by
      refine XS.ifNo X3.here hexec rfl (hb hbytes d11) rfl (i0_eq_f (by decide)) ?_
      refine XS.aloadN X3.here hexec rfl (hb hbytes d14) rfl rfl ?_
      exact Steps.refl _)
    obtain ⟨T5, X5, q5, st5⟩ := cself X3 hexec hown (wk W (.classLink "java/lang/String" 10 "java/lang/String")) (hy.mv X3.warmed.alike hh3).1 (g := (mkF m 15 #[.val (.ref x), .val (.ref y), .unset] [.ref y])) rfl (rest := []) rfl (hb hbytes d15)
    have hh5 := q5.trans hh3
    have c6 : Steps p.tables e below (s₁.setTop (entryFrame m #[.ref x, .ref y] 3)) (T5.setTop (mkF m 19 #[.val (.ref x), .val (.ref y), .val (.ref y)] [])) := (c4.trans (st5 _ (Steps.refl _))).trans (by
      refine XS.astoreN X5.here hexec rfl (hb hbytes d18) rfl rfl rfl ?_
      exact Steps.refl _)
    obtain ⟨T7, X7, q7, st7⟩ := X5.sget hexec hown (wk W (.fieldLink "java/lang/String" 38 "java/lang/String" "COMPACT_STRINGS" "Z")) s1 (fun _ _ h => by rw [hh5]; exact h) (g := (mkF m 19 #[.val (.ref x), .val (.ref y), .val (.ref y)] [])) rfl (hb hbytes d19)
    have hh7 := q7.trans hh5
    have c8 : Steps p.tables e below (s₁.setTop (entryFrame m #[.ref x, .ref y] 3)) (T7.setTop (mkF m 26 #[.val (.ref x), .val (.ref y), .val (.ref y)] [.ref x])) := (c6.trans (st7 _ (Steps.refl _))).trans (by
      refine XS.ifNo X7.here hexec rfl (hb hbytes d22) rfl (i0_eq_f hz) ?_
      refine XS.aloadN X7.here hexec rfl (hb hbytes d25) rfl rfl ?_
      exact Steps.refl _)
    obtain ⟨T9, X9, q9, st9⟩ := X7.hget hexec hown (wk W (.fieldLink "java/lang/String" 15 "java/lang/String" "coder" "B")) (hx.mv X7.warmed.alike hh7).2.2.1 (g := (mkF m 26 #[.val (.ref x), .val (.ref y), .val (.ref y)] [.ref x])) rfl (rest := []) rfl (hb hbytes d26)
    have hh9 := q9.trans hh7
    have c10 : Steps p.tables e below (s₁.setTop (entryFrame m #[.ref x, .ref y] 3)) (T9.setTop (mkF m 30 #[.val (.ref x), .val (.ref y), .val (.ref y)] [.ref y, .int cd])) := (c8.trans (st9 _ (Steps.refl _))).trans (by
      refine XS.aloadN X9.here hexec rfl (hb hbytes d29) rfl rfl ?_
      exact Steps.refl _)
    obtain ⟨T11, X11, q11, st11⟩ := X9.hget hexec hown (wk W (.fieldLink "java/lang/String" 15 "java/lang/String" "coder" "B")) (hy.mv X9.warmed.alike hh9).2.2.1 (g := (mkF m 30 #[.val (.ref x), .val (.ref y), .val (.ref y)] [.ref y, .int cd])) rfl (rest := [.int cd]) rfl (hb hbytes d30)
    have hh11 := q11.trans hh9
    have c12 : Steps p.tables e below (s₁.setTop (entryFrame m #[.ref x, .ref y] 3)) (T11.setTop (mkF m 33 #[.val (.ref x), .val (.ref y), .val (.ref y)] [.int cd', .int cd])) := c10.trans (st11 _ (Steps.refl _))
    by_cases hcd : cd = cd'
    · subst hcd
      have c13 : Steps p.tables e below (s₁.setTop (entryFrame m #[.ref x, .ref y] 3)) (T11.setTop (mkF m 37 #[.val (.ref x), .val (.ref y), .val (.ref y)] [.ref x])) := c12.trans (by
        refine XS.icmpNo X11.here hexec rfl (hb hbytes d33) rfl (ii_ne_f rfl) ?_
        refine XS.aloadN X11.here hexec rfl (hb hbytes d36) rfl rfl ?_
        exact Steps.refl _)
      obtain ⟨T14, X14, q14, st14⟩ := X11.hget hexec hown (wk W (.fieldLink "java/lang/String" 9 "java/lang/String" "value" "[B")) (hx.mv X11.warmed.alike hh11).2.1 (g := (mkF m 37 #[.val (.ref x), .val (.ref y), .val (.ref y)] [.ref x])) rfl (rest := []) rfl (hb hbytes d37)
      have hh14 := q14.trans hh11
      have c15 : Steps p.tables e below (s₁.setTop (entryFrame m #[.ref x, .ref y] 3)) (T14.setTop (mkF m 41 #[.val (.ref x), .val (.ref y), .val (.ref y)] [.ref y, .ref t])) := (c13.trans (st14 _ (Steps.refl _))).trans (by
        refine XS.aloadN X14.here hexec rfl (hb hbytes d40) rfl rfl ?_
        exact Steps.refl _)
      obtain ⟨T16, X16, q16, st16⟩ := X14.hget hexec hown (wk W (.fieldLink "java/lang/String" 9 "java/lang/String" "value" "[B")) (hy.mv X14.warmed.alike hh14).2.1 (g := (mkF m 41 #[.val (.ref x), .val (.ref y), .val (.ref y)] [.ref y, .ref t])) rfl (rest := [.ref t]) rfl (hb hbytes d41)
      have hh16 := q16.trans hh14
      have c17 : Steps p.tables e below (s₁.setTop (entryFrame m #[.ref x, .ref y] 3)) (T16.setTop (mkF m 44 #[.val (.ref x), .val (.ref y), .val (.ref y)] [.ref t', .ref t])) := c15.trans (st16 _ (Steps.refl _))
      obtain ⟨v18, T18, X18, E18, g18⟩ := X16.callS hexec (LEq.law l t V t' V') hown (wks W (staticW "java/lang/String" 541 LEq.yN)) (wk W LEq.tab) (W := 0) (Nat.le_of_ble_eq_true rfl) (Nat.le_of_ble_eq_true rfl) (Nat.le_refl _) (Nat.le_refl _) (g := (mkF m 44 #[.val (.ref x), .val (.ref y), .val (.ref y)] [.ref t', .ref t])) rfl (by rw [hml]; rfl) c17 (argsL := [.ref t, .ref t']) (rest := []) rfl rfl (by show 2 * 0 + 0 ≤ _; decide) (hb hbytes d44) (⟨rfl, hx.2.2.2.1.mv X16.warmed.alike hh16, hx.2.2.2.2.1.ty, hy.2.2.2.1.mv X16.warmed.alike hh16, hy.2.2.2.2.1.ty⟩)
      obtain ⟨v, rfl, q18, hv⟩ := E18
      have iff := Cod.eqv hx.2.2.2.2.1 hy.2.2.2.2.1 hx.2.2.2.2.2 hy.2.2.2.2.2
      rcases hv with ⟨rfl, he⟩ | ⟨rfl, he⟩
      · have c19 : Steps p.tables e below (s₁.setTop (entryFrame m #[.ref x, .ref y] 3)) (T18.setTop (mkF m 55 #[.val (.ref x), .val (.ref y), .val (.ref y)] [.int 1])) := Steps.trans g18 (by
          refine XS.ifNo X18.here hexec rfl (hb hbytes d47) rfl (i0_eq_f (by decide)) ?_
          refine iconstV X18.here hexec rfl 1 (hb hbytes d50) (by decide) ?_
          refine XS.goto X18.here hexec rfl (pc0 := 51) rfl (hb hbytes d51) (by decide) rfl ?_
          exact Steps.refl _)
        exact ⟨T18, some (.int 1), _, _, _, X18, rfl, rfl, rfl, (fun h => by cases h), ⟨1, rfl, q18.trans hh16, Or.inl ⟨rfl, iff.mp he⟩⟩, fun fs hl => c19.trans (X18.ireturnOut hexec hret rfl (Or.inr (Or.inl rfl)) (hb hbytes d55) hl)⟩
      · have c19 : Steps p.tables e below (s₁.setTop (entryFrame m #[.ref x, .ref y] 3)) (T18.setTop (mkF m 55 #[.val (.ref x), .val (.ref y), .val (.ref y)] [.int 0])) := Steps.trans g18 (by
          refine XS.ifYes X18.here hexec rfl (pc0 := 47) rfl (hb hbytes d47) rfl (i0_eq_t rfl) (by decide) rfl ?_
          refine iconstV X18.here hexec rfl 0 (hb hbytes d54) (by decide) ?_
          exact Steps.refl _)
        exact ⟨T18, some (.int 0), _, _, _, X18, rfl, rfl, rfl, (fun h => by cases h), ⟨0, rfl, q18.trans hh16, Or.inr ⟨rfl, fun q => he (iff.mpr q)⟩⟩, fun fs hl => c19.trans (X18.ireturnOut hexec hret rfl (Or.inr (Or.inl rfl)) (hb hbytes d55) hl)⟩
    · have c13 : Steps p.tables e below (s₁.setTop (entryFrame m #[.ref x, .ref y] 3)) (T11.setTop (mkF m 55 #[.val (.ref x), .val (.ref y), .val (.ref y)] [.int 0])) := c12.trans (by
        refine XS.icmpYes X11.here hexec rfl (pc0 := 33) rfl (hb hbytes d33) rfl (ii_ne_t hcd) (by decide) rfl ?_
        refine iconstV X11.here hexec rfl 0 (hb hbytes d54) (by decide) ?_
        exact Steps.refl _)
      exact ⟨T11, some (.int 0), _, _, _, X11, rfl, rfl, rfl, (fun h => by cases h), ⟨0, rfl, hh11, Or.inr ⟨rfl, Cod.dif hx.2.2.2.2.1 hy.2.2.2.2.1 hcd⟩⟩, fun fs hl => c13.trans (X11.ireturnOut hexec hret rfl (Or.inr (Or.inl rfl)) (hb hbytes d55) hl)⟩
theorem pays {l : Launch} {R : Room} {p : Program} {e : Env} {below : List Frame} {s : State} {sargs : Array Value} {len W : Nat} (x t : Addr) (V : Cell) (cd : Int32) (n : Nat) (f : Nat → Int32) (y t' : Addr) (V' : Cell) (cd' : Int32) (k : Nat) (g : Nat → Int32) (z : Int32) (htab : tab.before sargs s = true) (hfr : 2 ≤ R.frames) (hlo : W + 28 ≤ R.locals) :
    Back l R p e below s sargs yN len W (fun A₁ a₁ => A₁.cells + 0 ≤ R.cells ∧ A₁.slots + 0 ≤ R.slots ∧ P x t V cd n f y t' V' cd' k g z a₁ A₁.U) (fun A₁ _ v₁ B₁ => Says01 (SameT n f k g) v₁ A₁.U B₁.U ∧ B₁.locs = A₁.locs ++ [] ∧ B₁.cells = A₁.cells + 0 ∧ B₁.slots = A₁.slots + 0) :=
  (law l x t V cd n f y t' V' cd' k g z).pays htab hfr (by omega)
end SEq
end StrChars
namespace StrChars.Road
open Jvm Sem ClassFile Op Lib Jvm.Stand Jvm.Free Jvm.Free.XT
open Jvm.Lib.Cold (StaticIs)
/-- the words of String.equals(Object) -/
abbrev wordsEq : List Jvm.Cond := [.code SEq.yN SEq.yB 3 (some .boolean), .initialized ST, .classLink ST 10 ST, .fieldLink ST 38 ST "COMPACT_STRINGS" "Z", .fieldLink ST 15 ST "coder" "B", .fieldLink ST 9 ST "value" "[B", .methodLink ST 541 LEq.yN, .static LEq.yN, .code LEq.yN LEq.yB 3 (some .boolean), .initialized "java/lang/StringLatin1"]
theorem tabEq_of {a : Array Value} {s : State} (h : ∀ w ∈ wordsEq, w.before a s = true) : SEq.tab.before a s = true := by
  have hl : LEq.tab.before a s = true := unparts (wk h (.code LEq.yN LEq.yB 3 (some .boolean))) (wks h (.initialized LEq.yN.cls :: LEq.site))
  have q := consq hl h
  exact unparts (wk q (.code SEq.yN SEq.yB 3 (some .boolean))) (wks q (.initialized SEq.yN.cls :: SEq.site))
theorem movedEq {Z s : State} {a0 args : Array Value} (hZ : Z.Warmed39 s.vm) (hw : ∀ d ∈ wordsEq, d.before a0 Z = true) : ∀ d ∈ wordsEq, d.before args s = true := fun d hd => by
  have t : ∀ d ∈ wordsEq, (d.onTables && d.keepsFace) = true := by decide +kernel
  exact RoadKit.mv hZ (hw d hd) (t d hd)
/-- the road's facts of a String, as the laws ask it -/
theorem txt_of {Z U : State} {a0 : Array Value} {kI : Nat} (wi : (Jvm.Cond.instantiable ST kI).before a0 Z = true) (al : Z.vm.Alike U.vm) {x t : Addr} {kb : ClassId} {cs : List Int32} {cd N2 : Int32} {vs : List Value} (E : RoadKit.Exa Z U.heap x ST) (V : RoadKit.Fld Z U.heap x ST "value" "[B" (.ref t)) (C : RoadKit.Fld Z U.heap x ST "coder" "B" (.int cd)) (K : RoadKit.Arv Z U.heap t kb .byte N2 vs (.int 0)) (hc : CodA cs cd N2 vs) (hb : ∀ c ∈ cs, ¬ c < 0 ∧ ¬ (65535 : Int32) < c) (l2 : cs.length ≤ 4000) :
    ∃ A, Txt x t A cd cs.length (fun j => cs.getD j 0) U := by
  obtain ⟨A, K1, K2, K3, K4, K5, K6⟩ := K
  have hcod := hc.cod (by omega) K3 K5
  obtain ⟨D, fV, fC, hB, F1, F2, g1, g2, -, -⟩ := strObj wi al E V C
  exact ⟨A, ⟨_, hB.2.2.1, D, hB.1, rfl, by cases q : D.vm <;> first | rfl | exact absurd q (hB.2.1.2 _)⟩, Has.of hB F1 g1, Has.of hB F2 g2, ⟨K1.1, State.isArrayOf_alike al K1.2.1, K1.2.2, by rcases hcod with ⟨-, q, -⟩ | ⟨-, q, -⟩ <;> omega⟩, hcod, fun j hj => by
    have e : cs.getD j 0 = cs[j] := by simp [List.getD_eq_getElem?_getD, hj]
    show ¬ cs.getD j 0 < 0 ∧ ¬ 65535 < cs.getD j 0
    rw [e]; exact hb _ (List.getElem_mem _)⟩
theorem same_list (cs ds : List Int32) : SameT cs.length (fun j => cs.getD j 0) ds.length (fun j => ds.getD j 0) ↔ cs = ds := by
  constructor
  · rintro ⟨e, q⟩
    refine List.ext_getElem e fun j h1 h2 => ?_
    have := q j h1
    simpa [List.getD_eq_getElem?_getD, h1, h2] using this
  · rintro rfl
    exact ⟨rfl, fun _ _ => rfl⟩
/-- **equals(Object) OF TWO SUCH STRINGS**: 1 just where the chars are the same -/
theorem eqW {p : Program} {l : Launch} {e : Env} {R : Room} {s : State} {args : Array Value} {below : List Frame} {len W : Nat} {Z : State} {a0 : Array Value} {h : Heap} (hZ : Z.Warmed39 s.vm) (hw : ∀ d ∈ wordsEq, d.before a0 Z = true) {kI : Nat} (wi : (Jvm.Cond.instantiable ST kI).before a0 Z = true)
    {x t : Addr} {kb : ClassId} {cs : List Int32} {cd N2 : Int32} {vs : List Value} (E : RoadKit.Exa Z h x ST) (V : RoadKit.Fld Z h x ST "value" "[B" (.ref t)) (C : RoadKit.Fld Z h x ST "coder" "B" (.int cd)) (K : RoadKit.Arv Z h t kb .byte N2 vs (.int 0)) (hc : CodA cs cd N2 vs) (hb : ∀ c ∈ cs, ¬ c < 0 ∧ ¬ (65535 : Int32) < c) (l2 : cs.length ≤ 4000)
    {y t' : Addr} {kb' : ClassId} {ds : List Int32} {cd' N2' : Int32} {vs' : List Value} (E' : RoadKit.Exa Z h y ST) (V' : RoadKit.Fld Z h y ST "value" "[B" (.ref t')) (C' : RoadKit.Fld Z h y ST "coder" "B" (.int cd')) (K' : RoadKit.Arv Z h t' kb' .byte N2' vs' (.int 0)) (hc' : CodA ds cd' N2' vs') (hb' : ∀ c ∈ ds, ¬ c < 0 ∧ ¬ (65535 : Int32) < c) (l2' : ds.length ≤ 4000)
    {z : Int32} (S : RoadKit.Sta Z h ST "COMPACT_STRINGS" "Z" (.int z)) (hz : ¬ z = 0) (hfr : 2 ≤ R.frames) (hlo : W + 28 ≤ R.locals) :
    Back l R p e below s args (⟨"java/lang/String", "equals", "(Ljava/lang/Object;)Z"⟩ : MethodName) len W (fun P a => a = #[.ref x, .ref y] ∧ P.U.heap = h ∧ P.cells + 0 ≤ R.cells ∧ P.slots + 0 ≤ R.slots)
      (fun P _ v B => ∃ L, (((v = some (.int 1) ∧ cs = ds) ∨ (v = some (.int 0) ∧ ¬ cs = ds)) ∧ L = [] ∧ B.U.heap = h) ∧ B.locs = P.locs ++ L ∧ B.cells = P.cells + 0 ∧ B.slots = P.slots + 0) := by
  intro m meth c P g ig mk a X hg hsize hdg hW hn hp'
  obtain ⟨rfl, rfl, r1, r2⟩ := hp'
  have al : Z.vm.Alike P.U.vm := hZ.alike.trans X.warmed.alike
  obtain ⟨A, hx⟩ := txt_of wi al E V C K hc hb l2
  obtain ⟨A', hy⟩ := txt_of wi al E' V' C' K' hc' hb' l2'
  obtain ⟨v, B, X', ⟨⟨w, hv, hh, hq⟩, hl, hk, hs⟩, st⟩ := SEq.pays x t A cd cs.length (fun j => cs.getD j 0) y t' A' cd' ds.length (fun j => ds.getD j 0) z (tabEq_of (movedEq hZ hw)) hfr hlo m meth c P g ig mk _ X hg hsize hdg hW hn ⟨r1, r2, rfl, hx, hy, sta_is al S, hz⟩
  refine ⟨v, B, X', ⟨[], ⟨?_, rfl, hh⟩, hl, hk, hs⟩, st⟩
  rcases hq with ⟨rfl, q⟩ | ⟨rfl, q⟩
  · exact Or.inl ⟨hv, (same_list cs ds).mp q⟩
  · exact Or.inr ⟨hv, fun e => q ((same_list cs ds).mpr e)⟩
end StrChars.Road
namespace StrChars.Road
open Jvm Sem ClassFile Op Lib Jvm.Stand Jvm.Free Jvm.Free.XT
open Jvm.Lib.Cold (StaticIs)
/-- what backV says of its String, as the contracts of this text ask it: cs's low bytes, coder 0 -/
theorem codOf {cs : List Int32} {n : Nat} (hn : cs.length = n) (hb : ∀ c ∈ cs, ¬ 255 < c) : CodA cs 0 (Int32.ofNat n) ((cs.map lo8).map Value.int) := Or.inl ⟨rfl, by rw [hn], by simp [List.map_map, Function.comp_def], hb⟩
end StrChars.Road
end Jvm.Pilot.@@N@@

namespace Jvm.Pilot.@@N@@
open Jvm Jvm.ClassFile Sem Op Lib Jvm.Free Jvm.Stand Jvm.LawKit Jvm.RoadKit Bundle Jvm.Pilot.@@N@@.Jvm.D
theorem own_eqint {args : Array Value} {first s : State} {o : Option Outcome} {idx : List Nat} {t : Term} {k : Int32} (h : (Jvm.Cond.eq t (.int k)).value args first o s idx = some true) : t.eval args first o idx s = some (.int k) := by
  obtain ⟨x, y, hx, hy, hk, hk'⟩ := cmp_v (Or.inl h)
  have ey : y = .int k := (Option.some.inj ((Term.int_eval k).symm.trans hy)).symm
  subst ey
  obtain ⟨z, rfl⟩ := hk'
  have hv : (Jvm.Cond.eq t (.int k)).value args first o s idx = some (decide (z = k)) := by simp [Cond.value, hx, hy]
  have := gotT hv h
  rw [hx, this]
theorem own_eqref {args : Array Value} {first s : State} {o : Option Outcome} {idx : List Nat} {t u : Term} {v : Value} (h : (Jvm.Cond.eq t u).value args first o s idx = some true) (hu : u.eval args first o idx s = some v) (hv : v.isRef = true) : t.eval args first o idx s = some v := by
  obtain ⟨x, y, hx, hy, hk, hk'⟩ := cmp_v (Or.inl h)
  have ey : y = v := Option.some.inj (hy.symm.trans hu)
  subst ey
  have hxr : x.isRef = true := by cases y <;> simp [Value.isRef] at hv <;> exact hk'.2
  have := gotT (eq_R hx hy hxr hv) h
  rw [hx, this]
theorem own_fld {args : Array Value} {s : State} {t : Term} {C n d : String} {k : Int32} {a : Addr} (ht : t.eval args s none [] s = some (.ref a)) (h : (Jvm.Cond.eq (.field t C n d) (.int k)).value args s none s [] = some true) : Fld s s.heap a C n d (.int k) := Fld.start ((fld_at ht).symm.trans (own_eqint h))
theorem own_fld_inj {Z : State} {h : Heap} {a : Addr} {C n d : String} {v w : Value} (F : Fld Z h a C n d v) (G : Fld Z h a C n d w) : v = w := by
  obtain ⟨c1, cf1, k1, i1, f1, h1, h2, -, -, -, -, h3⟩ := F
  obtain ⟨c2, cf2, k2, i2, f2, g1, g2, -, -, -, -, g3⟩ := G
  rw [h1] at g1; cases g1
  rw [h2] at g2; cases g2
  exact Option.some.inj (h3.symm.trans g3)
theorem own_ne {Z : State} {h : Heap} {a b : Addr} {C n d : String} {i j : Int32} (F : Fld Z h a C n d (.int i)) (G : Fld Z h b C n d (.int j)) (hij : ¬ i = j) : ¬ a = b := fun e => by
  subst e
  exact hij (Value.int.inj (own_fld_inj F G))
theorem own_keep_ext {h h' : Heap} (K : Keep h h' []) : Ext h h' := ⟨K.1, fun a c q => K.2.1 a c q nin0⟩
theorem own_sta_keep {Z : State} {h h' : Heap} {C n d C' : String} {v : Value} {b : Addr} (F : Sta Z h C n d v) (K : Keep h h' [b]) (E : Exa Z h b C') : Sta Z h' C n d v := by
  obtain ⟨cf, i, k, f, st, cell, h1, h2, h3, h4, h5, h6, h7⟩ := F
  obtain ⟨cell', k', g1, g2, g3, g4, g5⟩ := E
  refine ⟨cf, i, k, f, st, cell, h1, h2, h3, h4, K.2.1 st cell h5 (ninS (fun q => ?_) nin0), h6, h7⟩
  subst q
  rw [h5] at g1; cases g1
  rw [h6] at g4; cases g4
theorem own_at {s : State} {w : Addr} {cl : Cell} {ty : FieldType} (A : Arr s s.heap w cl ty) : s.arrayAt? w = some cl := Arr.fin (State.Warmed39.refl s).alike A
theorem own_len {args : Array Value} {s : State} {t : Term} {k : Int32} {w : Addr} {cl : Cell} {ty : FieldType} (ht : t.eval args s none [] s = some (.ref w)) (A : Arr s s.heap w cl ty) (h : (Jvm.Cond.eq (.length t) (.int k)).value args s none s [] = some true) : cl.slots.size = k.toNatClampNeg ∧ ¬ k < 0 ∧ cl.slots.size < 2 ^ 31 := by
  have e := own_eqint h
  have ha := own_at A
  by_cases h1 : cl.slots.size < 2 ^ 31
  · rw [len_f ht ha h1] at e
    have e2 : cl.slots.size.toInt32 = k := Value.int.inj (Option.some.inj e)
    subst e2
    have e3 := len_toInt h1
    refine ⟨?_, ?_, h1⟩
    · show cl.slots.size = (cl.slots.size.toInt32).toInt.toNat
      rw [e3]; rfl
    · rw [Int32.lt_iff_toInt_lt, e3]
      show ¬ ((cl.slots.size : Int) < 0)
      omega
  · simp [Term.eval, ht, ha, h1] at e
theorem own_idx {i : Nat} (hi : i < 2 ^ 31) : i.toInt32.toNatClampNeg = i ∧ ¬ i.toInt32 < 0 := by
  have e3 := len_toInt hi
  refine ⟨?_, ?_⟩
  · show (i.toInt32).toInt.toNat = i
    rw [e3]; rfl
  · rw [Int32.lt_iff_toInt_lt, e3]
    show ¬ ((i : Int) < 0)
    omega
theorem own_elem {args : Array Value} {s : State} {t : Term} {j v : Int32} {w : Addr} {cl : Cell} {ty : FieldType} (ht : t.eval args s none [] s = some (.ref w)) (A : Arr s s.heap w cl ty) (h : (Jvm.Cond.eq (.elem t (.int j)) (.int v)).value args s none s [] = some true) (hj : ¬ j < 0) : cl.slots[j.toNatClampNeg]? = some (.int v) := by
  have e := own_eqint h
  rw [elem_f ht (Term.int_eval j) (own_at A) hj] at e
  exact e
theorem own_elemR {args : Array Value} {s : State} {t u : Term} {j : Int32} {v : Value} {w : Addr} {cl : Cell} {ty : FieldType} (ht : t.eval args s none [] s = some (.ref w)) (A : Arr s s.heap w cl ty) (h : (Jvm.Cond.eq (.elem t (.int j)) u).value args s none s [] = some true) (hu : u.eval args s none [] s = some v) (hv : v.isRef = true) (hj : ¬ j < 0) : cl.slots[j.toNatClampNeg]? = some v := by
  have e := own_eqref h hu hv
  rw [elem_f ht (Term.int_eval j) (own_at A) hj] at e
  exact e
theorem own_or {args : Array Value} {first s : State} {o : Option Outcome} {idx : List Nat} {a b : Jvm.Cond} (h : (Jvm.Cond.or a b).value args first o s idx = some true) (ha : a.value args first o s idx = some false) : b.value args first o s idx = some true := by
  simpa [Cond.value, ha] using h
theorem own_ltl {i : Nat} {k : Int32} (hi : i < 2 ^ 31) (h : (i : Int) < k.toInt) : i.toInt32 < k := by
  rw [Int32.lt_iff_toInt_lt, len_toInt hi]; exact h
theorem own_gel {i : Nat} {k : Int32} (hi : i < 2 ^ 31) (h : k.toInt ≤ (i : Int)) : ¬ i.toInt32 < k := by
  rw [Int32.lt_iff_toInt_lt, len_toInt hi]; omega
theorem own_atidx {args : Array Value} {s : State} {t : Term} {v : Int32} {w : Addr} {cl : Cell} {ty : FieldType} {i : Nat} (ht : t.eval args s none [i] s = some (.ref w)) (A : Arr s s.heap w cl ty) (hi : i < 2 ^ 31) (h : (Jvm.Cond.eq (.elem t (.index 0)) (.int v)).value args s none s [i] = some true) : cl.slots[i]? = some (.int v) := by
  have e := own_eqint h
  rw [elem_f (j := i.toInt32) ht rfl (own_at A) (own_idx hi).2, (own_idx hi).1] at e
  exact e
theorem own_all_a {args : Array Value} {s : State} {t : Term} {K v : Int32} {w : Addr} {cl : Cell} {ty : FieldType} (ht : ∀ idx, t.eval args s none idx s = some (.ref w)) (A : Arr s s.heap w cl ty) (hz : cl.slots.size < 2 ^ 31)
    (h : (Jvm.Cond.all t (.or (.le (.int K) (.index 0)) (.eq (.elem t (.index 0)) (.int v)))).value args s none s [] = some true) (i : Nat) (hi : i < cl.slots.size) (hK : i.toInt32 < K) : cl.slots[i]? = some (.int v) := by
  have h1 := Cond.all_elim (ht []) (own_at A) h i hi
  have h2 := own_or h1 (by
    have q : (Jvm.Cond.le (.int K) (.index 0)).value args s none s [i] = some (decide (K ≤ i.toInt32)) := Cond.le_ints rfl rfl
    rw [q]; simp [Int32.not_le.mpr hK])
  exact own_atidx (ht _) A (by omega) h2
theorem own_all_b {args : Array Value} {s : State} {t : Term} {lo K v : Int32} {w : Addr} {cl : Cell} {ty : FieldType} (ht : ∀ idx, t.eval args s none idx s = some (.ref w)) (A : Arr s s.heap w cl ty) (hz : cl.slots.size < 2 ^ 31)
    (h : (Jvm.Cond.all t (.or (.lt (.index 0) (.int lo)) (.or (.le (.int K) (.index 0)) (.eq (.elem t (.index 0)) (.int v))))).value args s none s [] = some true) (i : Nat) (hi : i < cl.slots.size) (hL : ¬ i.toInt32 < lo) (hK : i.toInt32 < K) : cl.slots[i]? = some (.int v) := by
  have h1 := Cond.all_elim (ht []) (own_at A) h i hi
  have h2 := own_or h1 (by
    have q : (Jvm.Cond.lt (.index 0) (.int lo)).value args s none s [i] = some (decide (i.toInt32 < lo)) := Cond.lt_ints rfl rfl
    rw [q]; simp [hL])
  have h3 := own_or h2 (by
    have q : (Jvm.Cond.le (.int K) (.index 0)).value args s none s [i] = some (decide (K ≤ i.toInt32)) := Cond.le_ints rfl rfl
    rw [q]; simp [Int32.not_le.mpr hK])
  exact own_atidx (ht _) A (by omega) h3
theorem own_rem (x : Int32) (m : Int32) (n : Int) (hm : m.toInt = n) (hn : 0 < n) : 0 ≤ ((x &&& (2147483647 : Int32)) % m).toInt ∧ ((x &&& (2147483647 : Int32)) % m).toInt < n := by
  have e1 : (x &&& (2147483647 : Int32)).toInt = x.toInt % 2 ^ 31 := Jvm.Kit.i32_mask x 2147483647 (k := 31) (by decide) (by decide)
  have h0 : 0 ≤ (x &&& (2147483647 : Int32)).toInt := by rw [e1]; omega
  rw [(c_irem _ m n hm).1 h0]
  exact ⟨Int.emod_nonneg _ (by omega), Int.emod_lt_of_pos _ hn⟩
theorem own_cases6 {k : Int32} (h0 : 0 ≤ k.toInt) (h1 : k.toInt < 6) : k = (0 : Int32) ∨ k = (1 : Int32) ∨ k = (2 : Int32) ∨ k = (3 : Int32) ∨ k = (4 : Int32) ∨ k = (5 : Int32) := by
  have h : k.toInt = 0 ∨ k.toInt = 1 ∨ k.toInt = 2 ∨ k.toInt = 3 ∨ k.toInt = 4 ∨ k.toInt = 5 := by omega
  rcases h with h | h | h | h | h | h
  · exact Or.inl (Int32.toInt_inj.mp (by rw [h]; rfl))
  · exact Or.inr (Or.inl (Int32.toInt_inj.mp (by rw [h]; rfl)))
  · exact Or.inr (Or.inr (Or.inl (Int32.toInt_inj.mp (by rw [h]; rfl))))
  · exact Or.inr (Or.inr (Or.inr (Or.inl (Int32.toInt_inj.mp (by rw [h]; rfl)))))
  · exact Or.inr (Or.inr (Or.inr (Or.inr (Or.inl (Int32.toInt_inj.mp (by rw [h]; rfl))))))
  · exact Or.inr (Or.inr (Or.inr (Or.inr (Or.inr ((Int32.toInt_inj.mp (by rw [h]; rfl)))))))
def cs0 : List Int32 := [(83 : Int32), (116 : Int32), (97 : Int32), (114 : Int32), (116 : Int32)]
theorem own_cod0 : StrChars.Road.CodA cs0 (0 : Int32) (5 : Int32) (cs0.map Value.int) := StrChars.Road.codOf (cs := cs0) (n := 5) rfl (by decide)
theorem own_b0 : ∀ c ∈ cs0, ¬ c < 0 ∧ ¬ (65535 : Int32) < c := by decide
theorem own_c0 : ∀ c ∈ cs0, ¬ c < 0 ∧ ¬ (255 : Int32) < c := by decide
def cs1 : List Int32 := [(84 : Int32), (97 : Int32), (115 : Int32), (107 : Int32)]
theorem own_cod1 : StrChars.Road.CodA cs1 (0 : Int32) (4 : Int32) (cs1.map Value.int) := StrChars.Road.codOf (cs := cs1) (n := 4) rfl (by decide)
theorem own_b1 : ∀ c ∈ cs1, ¬ c < 0 ∧ ¬ (65535 : Int32) < c := by decide
theorem own_c1 : ∀ c ∈ cs1, ¬ c < 0 ∧ ¬ (255 : Int32) < c := by decide
def cs2 : List Int32 := [(87 : Int32), (97 : Int32), (105 : Int32), (116 : Int32)]
theorem own_cod2 : StrChars.Road.CodA cs2 (0 : Int32) (4 : Int32) (cs2.map Value.int) := StrChars.Road.codOf (cs := cs2) (n := 4) rfl (by decide)
theorem own_b2 : ∀ c ∈ cs2, ¬ c < 0 ∧ ¬ (65535 : Int32) < c := by decide
theorem own_c2 : ∀ c ∈ cs2, ¬ c < 0 ∧ ¬ (255 : Int32) < c := by decide
def cs3 : List Int32 := [(70 : Int32), (111 : Int32), (114 : Int32), (107 : Int32)]
theorem own_cod3 : StrChars.Road.CodA cs3 (0 : Int32) (4 : Int32) (cs3.map Value.int) := StrChars.Road.codOf (cs := cs3) (n := 4) rfl (by decide)
theorem own_b3 : ∀ c ∈ cs3, ¬ c < 0 ∧ ¬ (65535 : Int32) < c := by decide
theorem own_c3 : ∀ c ∈ cs3, ¬ c < 0 ∧ ¬ (255 : Int32) < c := by decide
def cs4 : List Int32 := [(74 : Int32), (111 : Int32), (105 : Int32), (110 : Int32)]
theorem own_cod4 : StrChars.Road.CodA cs4 (0 : Int32) (4 : Int32) (cs4.map Value.int) := StrChars.Road.codOf (cs := cs4) (n := 4) rfl (by decide)
theorem own_b4 : ∀ c ∈ cs4, ¬ c < 0 ∧ ¬ (65535 : Int32) < c := by decide
theorem own_c4 : ∀ c ∈ cs4, ¬ c < 0 ∧ ¬ (255 : Int32) < c := by decide
def cs5 : List Int32 := [(83 : Int32), (117 : Int32), (99 : Int32), (99 : Int32), (101 : Int32), (115 : Int32), (115 : Int32)]
theorem own_cod5 : StrChars.Road.CodA cs5 (0 : Int32) (7 : Int32) (cs5.map Value.int) := StrChars.Road.codOf (cs := cs5) (n := 7) rfl (by decide)
theorem own_b5 : ∀ c ∈ cs5, ¬ c < 0 ∧ ¬ (65535 : Int32) < c := by decide
theorem own_c5 : ∀ c ∈ cs5, ¬ c < 0 ∧ ¬ (255 : Int32) < c := by decide
theorem d8_0 : decode prog_9_method_1_code 0 = .ok (.getstatic 22, 3) := by decide +kernel
theorem d8_3 : decode prog_9_method_1_code 3 = .ok (.invokevirtual 26, 3) := by decide +kernel
theorem d8_6 : decode prog_9_method_1_code 6 = .ok (.checkcast 27, 3) := by decide +kernel
theorem d8_9 : decode prog_9_method_1_code 9 = .ok (.areturn, 1) := by decide +kernel
theorem pn_rmV : plainName "com/example/nevermind/nevermind/graphs/NodeType" = true := by first | (simp [plainName, overriddenIn]; done) | decide +kernel
theorem ef_rmV (m : MethodId)  : entryFrame m #[] 0 = mkF m 0 #[] [] := by first | (simp [entryFrame, mkF, argsToLocals, Value.category]; done) | rfl
def Q_rmV (Z : State) (wV : Addr) (kV : ClassId) (w_START : Addr) (w_TASK : Addr) (w_WAIT : Addr) (w_FORK : Addr) (w_JOIN : Addr) (w_SUCCESS : Addr) (h0 : Heap) (n0 : Nat) (v : Option Value) (h : Heap) (L : List Loc) : Prop := ∃ b : Addr, v = some (.ref b) ∧ Fr n0 L ∧ Ext h0 h ∧ Arv Z h b kV (.object "com/example/nevermind/nevermind/graphs/NodeType") (6 : Int32) [.ref w_START, .ref w_TASK, .ref w_WAIT, .ref w_FORK, .ref w_JOIN, .ref w_SUCCESS] .null
set_option maxRecDepth 65536 in
set_option maxHeartbeats 40000000 in
theorem rmV (l : Launch) (Z : State) (a0 : Array Value) (hw : ∀ d ∈ tables_1, d.before a0 Z = true) (ws : List Jvm.Cond) (wV : Addr) (kV : ClassId) (w_START : Addr) (w_TASK : Addr) (w_WAIT : Addr) (w_FORK : Addr) (w_JOIN : Addr) (w_SUCCESS : Addr) (h0 : Heap) (n0 : Nat) (Z0 : n0 ≤ h0.size) (S_V : Sta Z h0 "com/example/nevermind/nevermind/graphs/NodeType" "$VALUES" "[Lcom/example/nevermind/nevermind/graphs/NodeType;" (.ref wV)) (V_V : Arv Z h0 wV kV (.object "com/example/nevermind/nevermind/graphs/NodeType") (6 : Int32) [.ref w_START, .ref w_TASK, .ref w_WAIT, .ref w_FORK, .ref w_JOIN, .ref w_SUCCESS] .null) (E_V : Exa Z h0 wV "[Lcom/example/nevermind/nevermind/graphs/NodeType;") :
    MetFree l (⟨"com/example/nevermind/nevermind/graphs/NodeType", "values", "()[Lcom/example/nevermind/nevermind/graphs/NodeType;"⟩ : MethodName) (head1 (Jvm.Cond.code (⟨"com/example/nevermind/nevermind/graphs/NodeType", "values", "()[Lcom/example/nevermind/nevermind/graphs/NodeType;"⟩ : MethodName) prog_9_method_1_code 0 (some (.array (.object "com/example/nevermind/nevermind/graphs/NodeType"))) :: ws) ({ frames := 1, cells := 1, slots := 6, locals := 14 } : Room)) (fun a U => a = #[] ∧ Z.Warmed39 U.vm ∧ U.heap = h0) (fun _ _ _ _ _ => True) (fun _ U o U' => ∃ v L, o = .returned v ∧ Q_rmV Z wV kV w_START w_TASK w_WAIT w_FORK w_JOIN w_SUCCESS h0 n0 v U'.heap L ∧ FrameEnd U o U' L ({ frames := 1, cells := 1, slots := 6, locals := 14 } : Room).cells ({ frames := 1, cells := 1, slots := 6, locals := 14 } : Room).slots) := by
  refine MetFree.of_bodySF (plainFor_of_name pn_rmV) hisR ?_
  intro p e s m args below meth c s₁ Bd hml0 hP hK
  obtain ⟨rfl, hZ, hh⟩ := hP
  have hx := Bd.exec
  have hby := Bd.bytes
  have hml : c.maxLocals = 0 := hml0
  have hown : s.vm.findClass "com/example/nevermind/nevermind/graphs/NodeType" = some m.cls := findClass_of_methodNamed Bd.named
  have hnm := (name_of_methodNamed Bd.named Bd.method).1
  have X0 : Stand p l e ({ frames := 1, cells := 1, slots := 6, locals := 14 } : Room) s m #[] below meth c s₁ [] 0 0 := Stand.of_body Bd
  have e0 : s₁.heap = h0 := by rw [← hh, Bd.state]; rfl
  have N0 := Fr.nil n0
  have pre0 : ∀ t, Steps p.tables e below (s₁.setTop (mkF m 0 #[] [])) t → Steps p.tables e below (s₁.setTop (entryFrame m #[] 0)) t := fun t k => castTop (ef_rmV m ) k
  obtain ⟨T1, X1, e1, st1⟩ := getS2 X0 hx hZ hown (host := "") (Or.inl (hw _ (List.mem_of_getElem? (i := 40) rfl))) Via.refl e0 S_V (g := (mkF m 0 #[] [])) rfl (hb hby d8_0)
  obtain ⟨T2, h2, X2, e2, E2, V2, A2, st2⟩ := cloneH X1 hx hZ hown (hw _ (List.mem_of_getElem? (i := 42) rfl)) (hw _ (List.mem_of_getElem? (i := 43) rfl)) (hw _ (List.mem_of_getElem? (i := 47) rfl)) (hw _ (List.mem_of_getElem? (i := 45) rfl)) (hw _ (List.mem_of_getElem? (i := 46) rfl)) (hw _ (List.mem_of_getElem? (i := 48) rfl)) e1 (Arv.arh V_V) E_V (g := (mkF m 3 #[] [(.ref wV)])) rfl (by rw [hml]; rfl) rfl (hb hby d8_3) (by decide) (W := 0) (cap := 6) (by show 2 * 0 + _ ≤ _; exact Nat.le_of_eq rfl) (by decide) (by decide) (by decide) (by decide)
  obtain ⟨b2, g2⟩ : ∃ z, z = h0.size := ⟨_, rfl⟩
  rw [← g2] at V2 A2 st2
  obtain ⟨T3, X3, e3, st3⟩ := castY X2 hx hZ hown (hw _ (List.mem_of_getElem? (i := 55) rfl)) e2 (Ins.self A2) (g := (mkF m 6 #[] [(.ref b2)])) rfl rfl (hb hby d8_6)
  obtain ⟨fs, hr, hrun, hended, hW, hsame⟩ := X3.leave (v := some (.ref b2)) (fun h => by rw [Bd.returns] at h; cases h)
  refine ⟨_, _, pre0 _ ?_, hrun, hended, _, _, rfl, ?_, ⟨_, rfl⟩, hW, hsame.mono (by decide) (by decide)⟩
  · show Steps p.tables e below (s₁.setTop (mkF m 0 #[] [])) _
    refine st1 _ ?_
    show Steps p.tables e below (T1.setTop (mkF m 3 #[] [(.ref wV)])) _
    refine st2 _ ?_
    show Steps p.tables e below (T2.setTop (mkF m 6 #[] [(.ref b2)])) _
    refine st3 _ ?_
    show Steps p.tables e below (T3.setTop (mkF m 9 #[] [(.ref b2)])) _
    jvm_step X3.here [X3.here.top, hx, (hb hby d8_9), X3.method', Bd.returns, Value.isRef, FieldType.isReference]
    first | (intro acts; rw [hr _ acts rfl rfl rfl]) | rw [hr _ _ rfl rfl rfl]
    exact Steps.refl _
  · show Q_rmV Z wV kV w_START w_TASK w_WAIT w_FORK w_JOIN w_SUCCESS h0 n0 _ T3.heap _
    rw [e3]
    exact ⟨b2, rfl, N0, E2, V2⟩
theorem d7_0 : decode prog_9_method_5_code 0 = .ok (.invokestatic 45, 3) := by decide +kernel
theorem d7_3 : decode prog_9_method_5_code 3 = .ok (.astore_n 1, 1) := by decide +kernel
theorem d7_4 : decode prog_9_method_5_code 4 = .ok (.aload_n 1, 1) := by decide +kernel
theorem d7_5 : decode prog_9_method_5_code 5 = .ok (.arraylength, 1) := by decide +kernel
theorem d7_6 : decode prog_9_method_5_code 6 = .ok (.istore_n 2, 1) := by decide +kernel
theorem d7_7 : decode prog_9_method_5_code 7 = .ok (.iconst 0, 1) := by decide +kernel
theorem d7_8 : decode prog_9_method_5_code 8 = .ok (.istore_n 3, 1) := by decide +kernel
theorem d7_9 : decode prog_9_method_5_code 9 = .ok (.iload_n 3, 1) := by decide +kernel
theorem d7_10 : decode prog_9_method_5_code 10 = .ok (.iload_n 2, 1) := by decide +kernel
theorem d7_11 : decode prog_9_method_5_code 11 = .ok (.if_icmp .ge 29, 3) := by decide +kernel
theorem d7_14 : decode prog_9_method_5_code 14 = .ok (.aload_n 1, 1) := by decide +kernel
theorem d7_15 : decode prog_9_method_5_code 15 = .ok (.iload_n 3, 1) := by decide +kernel
theorem d7_16 : decode prog_9_method_5_code 16 = .ok (.aaload, 1) := by decide +kernel
theorem d7_17 : decode prog_9_method_5_code 17 = .ok (.astore 4, 2) := by decide +kernel
theorem d7_19 : decode prog_9_method_5_code 19 = .ok (.aload 4, 2) := by decide +kernel
theorem d7_21 : decode prog_9_method_5_code 21 = .ok (.getfield 41, 3) := by decide +kernel
theorem d7_24 : decode prog_9_method_5_code 24 = .ok (.aload_n 0, 1) := by decide +kernel
theorem d7_25 : decode prog_9_method_5_code 25 = .ok (.invokevirtual 49, 3) := by decide +kernel
theorem d7_28 : decode prog_9_method_5_code 28 = .ok (.ifCond .eq 6, 3) := by decide +kernel
theorem d7_31 : decode prog_9_method_5_code 31 = .ok (.aload 4, 2) := by decide +kernel
theorem d7_33 : decode prog_9_method_5_code 33 = .ok (.areturn, 1) := by decide +kernel
theorem pn_rmF0 : plainName "com/example/nevermind/nevermind/graphs/NodeType" = true := by first | (simp [plainName, overriddenIn]; done) | decide +kernel
theorem pd_rmF0_0 : parseMethodDescriptor "()[Lcom/example/nevermind/nevermind/graphs/NodeType;" = some ⟨[], some (.array (.object "com/example/nevermind/nevermind/graphs/NodeType"))⟩ := by decide +kernel
theorem pd_rmF0_1 : parseMethodDescriptor "(Ljava/lang/Object;)Z" = some ⟨[(.object "java/lang/Object")], some .boolean⟩ := by decide +kernel
theorem ef_rmF0 (m : MethodId) (xu : Addr) : entryFrame m #[(.ref xu)] 5 = mkF m 0 #[.val (.ref xu), .unset, .unset, .unset, .unset] [] := by first | (simp [entryFrame, mkF, argsToLocals, Value.category]; done) | rfl
def Q_rmF0 (Z : State) (xu : Addr) (xt : Addr) (xk : ClassId) (wV : Addr) (kV : ClassId) (w_START : Addr) (w_TASK : Addr) (w_WAIT : Addr) (w_FORK : Addr) (w_JOIN : Addr) (w_SUCCESS : Addr) (s0u : Addr) (s0t : Addr) (s0k : ClassId) (s1u : Addr) (s1t : Addr) (s1k : ClassId) (s2u : Addr) (s2t : Addr) (s2k : ClassId) (s3u : Addr) (s3t : Addr) (s3k : ClassId) (s4u : Addr) (s4t : Addr) (s4k : ClassId) (s5u : Addr) (s5t : Addr) (s5k : ClassId) (zc : Int32) (h0 : Heap) (n0 : Nat) (v : Option Value) (h : Heap) (L : List Loc) : Prop := v = some (.ref w_START) ∧ Fr n0 L ∧ Ext h0 h
set_option maxRecDepth 65536 in
set_option maxHeartbeats 40000000 in
theorem rmF0 (l : Launch) (Z : State) (a0 : Array Value) (hw : ∀ d ∈ tables_1, d.before a0 Z = true) (ws : List Jvm.Cond) (xu : Addr) (xt : Addr) (xk : ClassId) (wV : Addr) (kV : ClassId) (w_START : Addr) (w_TASK : Addr) (w_WAIT : Addr) (w_FORK : Addr) (w_JOIN : Addr) (w_SUCCESS : Addr) (s0u : Addr) (s0t : Addr) (s0k : ClassId) (s1u : Addr) (s1t : Addr) (s1k : ClassId) (s2u : Addr) (s2t : Addr) (s2k : ClassId) (s3u : Addr) (s3t : Addr) (s3k : ClassId) (s4u : Addr) (s4t : Addr) (s4k : ClassId) (s5u : Addr) (s5t : Addr) (s5k : ClassId) (zc : Int32) (h0 : Heap) (n0 : Nat) (Z0 : n0 ≤ h0.size) (xE : Exa Z h0 xu "java/lang/String") (xV : Fld Z h0 xu "java/lang/String" "value" "[B" (.ref xt)) (xC : Fld Z h0 xu "java/lang/String" "coder" "B" (.int (0 : Int32))) (xK : Arv Z h0 xt xk .byte (5 : Int32) (cs0.map Value.int) (.int 0)) (S_V : Sta Z h0 "com/example/nevermind/nevermind/graphs/NodeType" "$VALUES" "[Lcom/example/nevermind/nevermind/graphs/NodeType;" (.ref wV)) (V_V : Arv Z h0 wV kV (.object "com/example/nevermind/nevermind/graphs/NodeType") (6 : Int32) [.ref w_START, .ref w_TASK, .ref w_WAIT, .ref w_FORK, .ref w_JOIN, .ref w_SUCCESS] .null) (E_V : Exa Z h0 wV "[Lcom/example/nevermind/nevermind/graphs/NodeType;") (s0F : Fld Z h0 w_START "com/example/nevermind/nevermind/graphs/NodeType" "wireName" "Ljava/lang/String;" (.ref s0u)) (s0E : Exa Z h0 s0u "java/lang/String") (s0V : Fld Z h0 s0u "java/lang/String" "value" "[B" (.ref s0t)) (s0C : Fld Z h0 s0u "java/lang/String" "coder" "B" (.int (0 : Int32))) (s0K : Arv Z h0 s0t s0k .byte (5 : Int32) (cs0.map Value.int) (.int 0)) (s1F : Fld Z h0 w_TASK "com/example/nevermind/nevermind/graphs/NodeType" "wireName" "Ljava/lang/String;" (.ref s1u)) (s1E : Exa Z h0 s1u "java/lang/String") (s1V : Fld Z h0 s1u "java/lang/String" "value" "[B" (.ref s1t)) (s1C : Fld Z h0 s1u "java/lang/String" "coder" "B" (.int (0 : Int32))) (s1K : Arv Z h0 s1t s1k .byte (4 : Int32) (cs1.map Value.int) (.int 0)) (s2F : Fld Z h0 w_WAIT "com/example/nevermind/nevermind/graphs/NodeType" "wireName" "Ljava/lang/String;" (.ref s2u)) (s2E : Exa Z h0 s2u "java/lang/String") (s2V : Fld Z h0 s2u "java/lang/String" "value" "[B" (.ref s2t)) (s2C : Fld Z h0 s2u "java/lang/String" "coder" "B" (.int (0 : Int32))) (s2K : Arv Z h0 s2t s2k .byte (4 : Int32) (cs2.map Value.int) (.int 0)) (s3F : Fld Z h0 w_FORK "com/example/nevermind/nevermind/graphs/NodeType" "wireName" "Ljava/lang/String;" (.ref s3u)) (s3E : Exa Z h0 s3u "java/lang/String") (s3V : Fld Z h0 s3u "java/lang/String" "value" "[B" (.ref s3t)) (s3C : Fld Z h0 s3u "java/lang/String" "coder" "B" (.int (0 : Int32))) (s3K : Arv Z h0 s3t s3k .byte (4 : Int32) (cs3.map Value.int) (.int 0)) (s4F : Fld Z h0 w_JOIN "com/example/nevermind/nevermind/graphs/NodeType" "wireName" "Ljava/lang/String;" (.ref s4u)) (s4E : Exa Z h0 s4u "java/lang/String") (s4V : Fld Z h0 s4u "java/lang/String" "value" "[B" (.ref s4t)) (s4C : Fld Z h0 s4u "java/lang/String" "coder" "B" (.int (0 : Int32))) (s4K : Arv Z h0 s4t s4k .byte (4 : Int32) (cs4.map Value.int) (.int 0)) (s5F : Fld Z h0 w_SUCCESS "com/example/nevermind/nevermind/graphs/NodeType" "wireName" "Ljava/lang/String;" (.ref s5u)) (s5E : Exa Z h0 s5u "java/lang/String") (s5V : Fld Z h0 s5u "java/lang/String" "value" "[B" (.ref s5t)) (s5C : Fld Z h0 s5u "java/lang/String" "coder" "B" (.int (0 : Int32))) (s5K : Arv Z h0 s5t s5k .byte (7 : Int32) (cs5.map Value.int) (.int 0)) (S_C : Sta Z h0 "java/lang/String" "COMPACT_STRINGS" "Z" (.int zc)) (hzc : ¬ zc = 0) :
    MetFree l (⟨"com/example/nevermind/nevermind/graphs/NodeType", "fromWireName", "(Ljava/lang/String;)Lcom/example/nevermind/nevermind/graphs/NodeType;"⟩ : MethodName) (head1 (Jvm.Cond.code (⟨"com/example/nevermind/nevermind/graphs/NodeType", "fromWireName", "(Ljava/lang/String;)Lcom/example/nevermind/nevermind/graphs/NodeType;"⟩ : MethodName) prog_9_method_5_code 5 (some (.object "com/example/nevermind/nevermind/graphs/NodeType")) :: ws) ({ frames := 2, cells := 1, slots := 6, locals := 28 } : Room)) (fun a U => a = #[(.ref xu)] ∧ Z.Warmed39 U.vm ∧ U.heap = h0) (fun _ _ _ _ _ => True) (fun _ U o U' => ∃ v L, o = .returned v ∧ Q_rmF0 Z xu xt xk wV kV w_START w_TASK w_WAIT w_FORK w_JOIN w_SUCCESS s0u s0t s0k s1u s1t s1k s2u s2t s2k s3u s3t s3k s4u s4t s4k s5u s5t s5k zc h0 n0 v U'.heap L ∧ FrameEnd U o U' L ({ frames := 2, cells := 1, slots := 6, locals := 28 } : Room).cells ({ frames := 2, cells := 1, slots := 6, locals := 28 } : Room).slots) := by
  refine MetFree.of_bodySF (plainFor_of_name pn_rmF0) hisR ?_
  intro p e s m args below meth c s₁ Bd hml0 hP hK
  obtain ⟨rfl, hZ, hh⟩ := hP
  have hx := Bd.exec
  have hby := Bd.bytes
  have hml : c.maxLocals = 5 := hml0
  have hown : s.vm.findClass "com/example/nevermind/nevermind/graphs/NodeType" = some m.cls := findClass_of_methodNamed Bd.named
  have hnm := (name_of_methodNamed Bd.named Bd.method).1
  have X0 : Stand p l e ({ frames := 2, cells := 1, slots := 6, locals := 28 } : Room) s m #[(.ref xu)] below meth c s₁ [] 0 0 := Stand.of_body Bd
  have e0 : s₁.heap = h0 := by rw [← hh, Bd.state]; rfl
  have N0 := Fr.nil n0
  have pre0 : ∀ t, Steps p.tables e below (s₁.setTop (mkF m 0 #[.val (.ref xu), .unset, .unset, .unset, .unset] [])) t → Steps p.tables e below (s₁.setTop (entryFrame m #[(.ref xu)] 5)) t := fun t k => castTop (ef_rmF0 m xu) k
  have hwsE : ∀ d ∈ StrChars.Road.wordsEq, d.before a0 Z = true := fun d hd => hw d ((by decide +kernel : ∀ d ∈ StrChars.Road.wordsEq, d ∈ tables_1) d hd)
  obtain ⟨_, _, ⟨T1, L1, k1, n1⟩, -, X1, ⟨Lc1, hQ1, l1, y1, z1⟩, st1⟩ := Jvm.LawKit.callS X0 hx (y := (⟨"com/example/nevermind/nevermind/graphs/NodeType", "values", "()[Lcom/example/nevermind/nevermind/graphs/NodeType;"⟩ : MethodName)) hown (mvT hZ (hw _ (List.mem_of_getElem? (i := 37) rfl))) (mvT hZ (hw _ (List.mem_of_getElem? (i := 38) rfl))) (mvT hZ (hw _ (List.mem_of_getElem? (i := 3) rfl))) (mvT hZ (hw _ (List.mem_of_getElem? (i := 39) rfl))) (by decide) (backOf (W := 0) (rmV l Z a0 hw [] wV kV w_START w_TASK w_WAIT w_FORK w_JOIN w_SUCCESS h0 n0 Z0 S_V V_V E_V) hZ (hw _ (List.mem_of_getElem? (i := 39) rfl)) (hw _ (List.mem_of_getElem? (i := 3) rfl)) (by decide) (by decide)) (g := (mkF m 0 #[.val (.ref xu), .unset, .unset, .unset, .unset] [])) rfl (by rw [hml]; rfl) (argsL := []) (rest := []) (lenOf pd_rmF0_0 rfl) rfl (by show 2 * 0 + _ ≤ _; exact Nat.le_of_eq rfl) (hb hby d7_0) (fun _ _ => ⟨rfl, e0, (by decide : 0 + 1 ≤ _), (by decide : 0 + 6 ≤ _)⟩)
  dsimp only [Pt.U, Pt.locs, Pt.cells, Pt.slots] at X1 l1 y1 z1 st1 hQ1
  subst l1 y1 z1
  obtain ⟨b1, rfl, N1q, E1q, V1q⟩ := hQ1
  have N1 := Fr.app N0 N1q
  have K1 : Keep h0 T1.heap [] := ((Keep.refl h0 [])).ext E1q
  obtain ⟨cl2, Ar2, q2, S2, N2_, H2, G2⟩ := id V1q
  obtain ⟨cl3, Ar3, q3, S3, N3_, H3, G3⟩ := id V1q
  obtain ⟨T4, X4, e4, st4⟩ := getF X1 hx hZ hown (host := "") (Or.inl (hw _ (List.mem_of_getElem? (i := 57) rfl))) Via.refl rfl (Fld.ext E1q s0F) (g := (mkF m 21 #[.val (.ref xu), .val (.ref b1), .val (.int (6 : Int32)), .val (.int (0 : Int32)), .val (.ref w_START)] [(.ref w_START)])) rfl rfl (hb hby d7_21)
  obtain ⟨cq5, kq5, q5a, q5b, q5c⟩ := isOf hZ e4 (Exa.ext E1q s0E)
  obtain ⟨_, _, ⟨T5, L5, k5, n5⟩, -, X5, ⟨Lc5, hQ5, l5, y5, z5⟩, st5⟩ := X4.virtualBack hx (y := (⟨"java/lang/String", "equals", "(Ljava/lang/Object;)Z"⟩ : MethodName)) (z := (⟨"java/lang/String", "equals", "(Ljava/lang/Object;)Z"⟩ : MethodName)) hown (mvT hZ (hw _ (List.mem_of_getElem? (i := 59) rfl))) (mvT hZ (hw _ (List.mem_of_getElem? (i := 60) rfl))) (notFace_of_selects (args := #[]) (mvT hZ (hw _ (List.mem_of_getElem? (i := 62) rfl)))) (mvT hZ (hw _ (List.mem_of_getElem? (i := 62) rfl))) (mvT hZ (hw _ (List.mem_of_getElem? (i := 61) rfl))) (by decide) (StrChars.Road.eqW (W := 0) hZ hwsE (kI := 4) (hw _ (List.mem_of_getElem? (i := 6) rfl)) (Exa.ext E1q s0E) (Fld.ext E1q s0V) (Fld.ext E1q s0C) (s0K.ext E1q) own_cod0 own_b0 (by decide) (Exa.ext E1q xE) (Fld.ext E1q xV) (Fld.ext E1q xC) (xK.ext E1q) own_cod0 own_b0 (by decide) (Sta.ext E1q S_C) hzc (by decide) (by decide)) q5a q5c (g := (mkF m 25 #[.val (.ref xu), .val (.ref b1), .val (.int (6 : Int32)), .val (.int (0 : Int32)), .val (.ref w_START)] [(.ref xu), (.ref s0u)])) rfl (by rw [hml]; rfl) (Steps.refl _) (argsL := [(.ref xu)]) (rest := []) (lenOf pd_rmF0_1 rfl) rfl (by show 2 * 0 + _ ≤ _; exact Nat.le_of_eq rfl) (hb hby d7_25) (fun _ _ => ⟨rfl, e4, (by decide : 1 + 0 ≤ _), (by decide : 6 + 0 ≤ _)⟩)
  dsimp only [Pt.U, Pt.locs, Pt.cells, Pt.slots] at X5 l5 y5 z5 st5 hQ5
  subst l5 y5 z5
  rcases hQ5 with ⟨⟨hv5, hd5⟩ | ⟨hv5, hd5⟩, hl5, e5⟩
  rotate_left
  · exact absurd rfl hd5
  subst hv5 hl5
  have N5 := Fr.app N1 (Fr.nil n0)
  obtain ⟨fs, hr, hrun, hended, hW, hsame⟩ := X5.leave (v := some (.ref w_START)) (fun h => by rw [Bd.returns] at h; cases h)
  refine ⟨_, _, pre0 _ ?_, hrun, hended, _, _, rfl, ?_, ⟨_, rfl⟩, hW, hsame.mono (by decide) (by decide)⟩
  · show Steps p.tables e below (s₁.setTop (mkF m 0 #[.val (.ref xu), .unset, .unset, .unset, .unset] [])) _
    refine st1 _ ?_
    show Steps p.tables e below (T1.setTop (mkF m 3 #[.val (.ref xu), .unset, .unset, .unset, .unset] [(.ref b1)])) _
    refine XS.astoreN X1.here hx rfl (hb hby d7_3) rfl rfl (l' := #[.val (.ref xu), .val (.ref b1), .unset, .unset, .unset]) rfl ?_
    show Steps p.tables e below (T1.setTop (mkF m 4 #[.val (.ref xu), .val (.ref b1), .unset, .unset, .unset] [])) _
    refine XS.aloadN X1.here hx rfl (hb hby d7_4) rfl rfl ?_
    show Steps p.tables e below (T1.setTop (mkF m 5 #[.val (.ref xu), .val (.ref b1), .unset, .unset, .unset] [(.ref b1)])) _
    refine X1.arraylength hx (Ar2.1) (State.isArrayOf_alike hZ.alike Ar2.2.1) (g := (mkF m 5 #[.val (.ref xu), .val (.ref b1), .unset, .unset, .unset] [(.ref b1)])) rfl rfl (hb hby d7_5) _ ?_
    rw [len_of S2 N2_]
    show Steps p.tables e below (T1.setTop (mkF m 6 #[.val (.ref xu), .val (.ref b1), .unset, .unset, .unset] [(.int (6 : Int32))])) _
    refine XS.istoreN X1.here hx rfl (hb hby d7_6) rfl (l' := #[.val (.ref xu), .val (.ref b1), .val (.int (6 : Int32)), .unset, .unset]) rfl ?_
    show Steps p.tables e below (T1.setTop (mkF m 7 #[.val (.ref xu), .val (.ref b1), .val (.int (6 : Int32)), .unset, .unset] [])) _
    refine XS.iconst X1.here hx rfl (hb hby d7_7) ?_
    show Steps p.tables e below (T1.setTop (mkF m 8 #[.val (.ref xu), .val (.ref b1), .val (.int (6 : Int32)), .unset, .unset] [(.int (0 : Int32))])) _
    refine XS.istoreN X1.here hx rfl (hb hby d7_8) rfl (l' := #[.val (.ref xu), .val (.ref b1), .val (.int (6 : Int32)), .val (.int (0 : Int32)), .unset]) rfl ?_
    show Steps p.tables e below (T1.setTop (mkF m 9 #[.val (.ref xu), .val (.ref b1), .val (.int (6 : Int32)), .val (.int (0 : Int32)), .unset] [])) _
    refine XS.iloadN X1.here hx rfl (hb hby d7_9) rfl ?_
    show Steps p.tables e below (T1.setTop (mkF m 10 #[.val (.ref xu), .val (.ref b1), .val (.int (6 : Int32)), .val (.int (0 : Int32)), .unset] [(.int (0 : Int32))])) _
    refine XS.iloadN X1.here hx rfl (hb hby d7_10) rfl ?_
    show Steps p.tables e below (T1.setTop (mkF m 11 #[.val (.ref xu), .val (.ref b1), .val (.int (6 : Int32)), .val (.int (0 : Int32)), .unset] [(.int (6 : Int32)), (.int (0 : Int32))])) _
    refine XS.icmpNo X1.here hx rfl (hb hby d7_11) rfl (tlt (by decide : (0 : Int32) < (6 : Int32))).2.1 ?_
    show Steps p.tables e below (T1.setTop (mkF m 14 #[.val (.ref xu), .val (.ref b1), .val (.int (6 : Int32)), .val (.int (0 : Int32)), .unset] [])) _
    refine XS.aloadN X1.here hx rfl (hb hby d7_14) rfl rfl ?_
    show Steps p.tables e below (T1.setTop (mkF m 15 #[.val (.ref xu), .val (.ref b1), .val (.int (6 : Int32)), .val (.int (0 : Int32)), .unset] [(.ref b1)])) _
    refine XS.iloadN X1.here hx rfl (hb hby d7_15) rfl ?_
    show Steps p.tables e below (T1.setTop (mkF m 16 #[.val (.ref xu), .val (.ref b1), .val (.int (6 : Int32)), .val (.int (0 : Int32)), .unset] [(.int (0 : Int32)), (.ref b1)])) _
    refine X1.aaload hx (j := (0 : Int32)) (v := (.ref w_START)) (Ar3.1) (State.isArrayOf_alike hZ.alike Ar3.2.1) rfl Ar3.2.2 (inb_of S3 ⟨by decide, by decide⟩) (show cl3.slots[((0 : Int32)).toNatClampNeg]? = some (.ref w_START) from H3 0 (by rw [S3]; decide)) (g := (mkF m 16 #[.val (.ref xu), .val (.ref b1), .val (.int (6 : Int32)), .val (.int (0 : Int32)), .unset] [(.int (0 : Int32)), (.ref b1)])) rfl rfl (hb hby d7_16) _ ?_
    show Steps p.tables e below (T1.setTop (mkF m 17 #[.val (.ref xu), .val (.ref b1), .val (.int (6 : Int32)), .val (.int (0 : Int32)), .unset] [(.ref w_START)])) _
    refine XS.astore X1.here hx rfl (hb hby d7_17) rfl rfl (l' := #[.val (.ref xu), .val (.ref b1), .val (.int (6 : Int32)), .val (.int (0 : Int32)), .val (.ref w_START)]) rfl ?_
    show Steps p.tables e below (T1.setTop (mkF m 19 #[.val (.ref xu), .val (.ref b1), .val (.int (6 : Int32)), .val (.int (0 : Int32)), .val (.ref w_START)] [])) _
    refine XS.aload X1.here hx rfl (hb hby d7_19) rfl rfl ?_
    show Steps p.tables e below (T1.setTop (mkF m 21 #[.val (.ref xu), .val (.ref b1), .val (.int (6 : Int32)), .val (.int (0 : Int32)), .val (.ref w_START)] [(.ref w_START)])) _
    refine st4 _ ?_
    show Steps p.tables e below (T4.setTop (mkF m 24 #[.val (.ref xu), .val (.ref b1), .val (.int (6 : Int32)), .val (.int (0 : Int32)), .val (.ref w_START)] [(.ref s0u)])) _
    refine XS.aloadN X4.here hx rfl (hb hby d7_24) rfl rfl ?_
    show Steps p.tables e below (T4.setTop (mkF m 25 #[.val (.ref xu), .val (.ref b1), .val (.int (6 : Int32)), .val (.int (0 : Int32)), .val (.ref w_START)] [(.ref xu), (.ref s0u)])) _
    refine st5.trans ?_
    show Steps p.tables e below (T5.setTop (mkF m 28 #[.val (.ref xu), .val (.ref b1), .val (.int (6 : Int32)), .val (.int (0 : Int32)), .val (.ref w_START)] [(.int (1 : Int32))])) _
    refine XS.ifNo X5.here hx rfl (hb hby d7_28) rfl ((if0 _ _).trans (feq (by decide : ¬ ((1 : Int32) = (0 : Int32)))).1) ?_
    show Steps p.tables e below (T5.setTop (mkF m 31 #[.val (.ref xu), .val (.ref b1), .val (.int (6 : Int32)), .val (.int (0 : Int32)), .val (.ref w_START)] [])) _
    refine XS.aload X5.here hx rfl (hb hby d7_31) rfl rfl ?_
    show Steps p.tables e below (T5.setTop (mkF m 33 #[.val (.ref xu), .val (.ref b1), .val (.int (6 : Int32)), .val (.int (0 : Int32)), .val (.ref w_START)] [(.ref w_START)])) _
    jvm_step X5.here [X5.here.top, hx, (hb hby d7_33), X5.method', Bd.returns, Value.isRef, FieldType.isReference]
    first | (intro acts; rw [hr _ acts rfl rfl rfl]) | rw [hr _ _ rfl rfl rfl]
    exact Steps.refl _
  · show Q_rmF0 Z xu xt xk wV kV w_START w_TASK w_WAIT w_FORK w_JOIN w_SUCCESS s0u s0t s0k s1u s1t s1k s2u s2t s2k s3u s3t s3k s4u s4t s4k s5u s5t s5k zc h0 n0 _ T5.heap _
    rw [e5]
    exact ⟨rfl, N5, own_keep_ext K1⟩
theorem d7_34 : decode prog_9_method_5_code 34 = .ok (.iinc 3 1, 3) := by decide +kernel
theorem d7_37 : decode prog_9_method_5_code 37 = .ok (.goto (-28), 3) := by decide +kernel
theorem pn_rmF1 : plainName "com/example/nevermind/nevermind/graphs/NodeType" = true := by first | (simp [plainName, overriddenIn]; done) | decide +kernel
theorem pd_rmF1_0 : parseMethodDescriptor "()[Lcom/example/nevermind/nevermind/graphs/NodeType;" = some ⟨[], some (.array (.object "com/example/nevermind/nevermind/graphs/NodeType"))⟩ := by decide +kernel
theorem pd_rmF1_1 : parseMethodDescriptor "(Ljava/lang/Object;)Z" = some ⟨[(.object "java/lang/Object")], some .boolean⟩ := by decide +kernel
theorem ef_rmF1 (m : MethodId) (xu : Addr) : entryFrame m #[(.ref xu)] 5 = mkF m 0 #[.val (.ref xu), .unset, .unset, .unset, .unset] [] := by first | (simp [entryFrame, mkF, argsToLocals, Value.category]; done) | rfl
def Q_rmF1 (Z : State) (xu : Addr) (xt : Addr) (xk : ClassId) (wV : Addr) (kV : ClassId) (w_START : Addr) (w_TASK : Addr) (w_WAIT : Addr) (w_FORK : Addr) (w_JOIN : Addr) (w_SUCCESS : Addr) (s0u : Addr) (s0t : Addr) (s0k : ClassId) (s1u : Addr) (s1t : Addr) (s1k : ClassId) (s2u : Addr) (s2t : Addr) (s2k : ClassId) (s3u : Addr) (s3t : Addr) (s3k : ClassId) (s4u : Addr) (s4t : Addr) (s4k : ClassId) (s5u : Addr) (s5t : Addr) (s5k : ClassId) (zc : Int32) (h0 : Heap) (n0 : Nat) (v : Option Value) (h : Heap) (L : List Loc) : Prop := v = some (.ref w_TASK) ∧ Fr n0 L ∧ Ext h0 h
set_option maxRecDepth 65536 in
set_option maxHeartbeats 40000000 in
theorem rmF1 (l : Launch) (Z : State) (a0 : Array Value) (hw : ∀ d ∈ tables_1, d.before a0 Z = true) (ws : List Jvm.Cond) (xu : Addr) (xt : Addr) (xk : ClassId) (wV : Addr) (kV : ClassId) (w_START : Addr) (w_TASK : Addr) (w_WAIT : Addr) (w_FORK : Addr) (w_JOIN : Addr) (w_SUCCESS : Addr) (s0u : Addr) (s0t : Addr) (s0k : ClassId) (s1u : Addr) (s1t : Addr) (s1k : ClassId) (s2u : Addr) (s2t : Addr) (s2k : ClassId) (s3u : Addr) (s3t : Addr) (s3k : ClassId) (s4u : Addr) (s4t : Addr) (s4k : ClassId) (s5u : Addr) (s5t : Addr) (s5k : ClassId) (zc : Int32) (h0 : Heap) (n0 : Nat) (Z0 : n0 ≤ h0.size) (xE : Exa Z h0 xu "java/lang/String") (xV : Fld Z h0 xu "java/lang/String" "value" "[B" (.ref xt)) (xC : Fld Z h0 xu "java/lang/String" "coder" "B" (.int (0 : Int32))) (xK : Arv Z h0 xt xk .byte (4 : Int32) (cs1.map Value.int) (.int 0)) (S_V : Sta Z h0 "com/example/nevermind/nevermind/graphs/NodeType" "$VALUES" "[Lcom/example/nevermind/nevermind/graphs/NodeType;" (.ref wV)) (V_V : Arv Z h0 wV kV (.object "com/example/nevermind/nevermind/graphs/NodeType") (6 : Int32) [.ref w_START, .ref w_TASK, .ref w_WAIT, .ref w_FORK, .ref w_JOIN, .ref w_SUCCESS] .null) (E_V : Exa Z h0 wV "[Lcom/example/nevermind/nevermind/graphs/NodeType;") (s0F : Fld Z h0 w_START "com/example/nevermind/nevermind/graphs/NodeType" "wireName" "Ljava/lang/String;" (.ref s0u)) (s0E : Exa Z h0 s0u "java/lang/String") (s0V : Fld Z h0 s0u "java/lang/String" "value" "[B" (.ref s0t)) (s0C : Fld Z h0 s0u "java/lang/String" "coder" "B" (.int (0 : Int32))) (s0K : Arv Z h0 s0t s0k .byte (5 : Int32) (cs0.map Value.int) (.int 0)) (s1F : Fld Z h0 w_TASK "com/example/nevermind/nevermind/graphs/NodeType" "wireName" "Ljava/lang/String;" (.ref s1u)) (s1E : Exa Z h0 s1u "java/lang/String") (s1V : Fld Z h0 s1u "java/lang/String" "value" "[B" (.ref s1t)) (s1C : Fld Z h0 s1u "java/lang/String" "coder" "B" (.int (0 : Int32))) (s1K : Arv Z h0 s1t s1k .byte (4 : Int32) (cs1.map Value.int) (.int 0)) (s2F : Fld Z h0 w_WAIT "com/example/nevermind/nevermind/graphs/NodeType" "wireName" "Ljava/lang/String;" (.ref s2u)) (s2E : Exa Z h0 s2u "java/lang/String") (s2V : Fld Z h0 s2u "java/lang/String" "value" "[B" (.ref s2t)) (s2C : Fld Z h0 s2u "java/lang/String" "coder" "B" (.int (0 : Int32))) (s2K : Arv Z h0 s2t s2k .byte (4 : Int32) (cs2.map Value.int) (.int 0)) (s3F : Fld Z h0 w_FORK "com/example/nevermind/nevermind/graphs/NodeType" "wireName" "Ljava/lang/String;" (.ref s3u)) (s3E : Exa Z h0 s3u "java/lang/String") (s3V : Fld Z h0 s3u "java/lang/String" "value" "[B" (.ref s3t)) (s3C : Fld Z h0 s3u "java/lang/String" "coder" "B" (.int (0 : Int32))) (s3K : Arv Z h0 s3t s3k .byte (4 : Int32) (cs3.map Value.int) (.int 0)) (s4F : Fld Z h0 w_JOIN "com/example/nevermind/nevermind/graphs/NodeType" "wireName" "Ljava/lang/String;" (.ref s4u)) (s4E : Exa Z h0 s4u "java/lang/String") (s4V : Fld Z h0 s4u "java/lang/String" "value" "[B" (.ref s4t)) (s4C : Fld Z h0 s4u "java/lang/String" "coder" "B" (.int (0 : Int32))) (s4K : Arv Z h0 s4t s4k .byte (4 : Int32) (cs4.map Value.int) (.int 0)) (s5F : Fld Z h0 w_SUCCESS "com/example/nevermind/nevermind/graphs/NodeType" "wireName" "Ljava/lang/String;" (.ref s5u)) (s5E : Exa Z h0 s5u "java/lang/String") (s5V : Fld Z h0 s5u "java/lang/String" "value" "[B" (.ref s5t)) (s5C : Fld Z h0 s5u "java/lang/String" "coder" "B" (.int (0 : Int32))) (s5K : Arv Z h0 s5t s5k .byte (7 : Int32) (cs5.map Value.int) (.int 0)) (S_C : Sta Z h0 "java/lang/String" "COMPACT_STRINGS" "Z" (.int zc)) (hzc : ¬ zc = 0) :
    MetFree l (⟨"com/example/nevermind/nevermind/graphs/NodeType", "fromWireName", "(Ljava/lang/String;)Lcom/example/nevermind/nevermind/graphs/NodeType;"⟩ : MethodName) (head1 (Jvm.Cond.code (⟨"com/example/nevermind/nevermind/graphs/NodeType", "fromWireName", "(Ljava/lang/String;)Lcom/example/nevermind/nevermind/graphs/NodeType;"⟩ : MethodName) prog_9_method_5_code 5 (some (.object "com/example/nevermind/nevermind/graphs/NodeType")) :: ws) ({ frames := 2, cells := 1, slots := 6, locals := 28 } : Room)) (fun a U => a = #[(.ref xu)] ∧ Z.Warmed39 U.vm ∧ U.heap = h0) (fun _ _ _ _ _ => True) (fun _ U o U' => ∃ v L, o = .returned v ∧ Q_rmF1 Z xu xt xk wV kV w_START w_TASK w_WAIT w_FORK w_JOIN w_SUCCESS s0u s0t s0k s1u s1t s1k s2u s2t s2k s3u s3t s3k s4u s4t s4k s5u s5t s5k zc h0 n0 v U'.heap L ∧ FrameEnd U o U' L ({ frames := 2, cells := 1, slots := 6, locals := 28 } : Room).cells ({ frames := 2, cells := 1, slots := 6, locals := 28 } : Room).slots) := by
  refine MetFree.of_bodySF (plainFor_of_name pn_rmF1) hisR ?_
  intro p e s m args below meth c s₁ Bd hml0 hP hK
  obtain ⟨rfl, hZ, hh⟩ := hP
  have hx := Bd.exec
  have hby := Bd.bytes
  have hml : c.maxLocals = 5 := hml0
  have hown : s.vm.findClass "com/example/nevermind/nevermind/graphs/NodeType" = some m.cls := findClass_of_methodNamed Bd.named
  have hnm := (name_of_methodNamed Bd.named Bd.method).1
  have X0 : Stand p l e ({ frames := 2, cells := 1, slots := 6, locals := 28 } : Room) s m #[(.ref xu)] below meth c s₁ [] 0 0 := Stand.of_body Bd
  have e0 : s₁.heap = h0 := by rw [← hh, Bd.state]; rfl
  have N0 := Fr.nil n0
  have pre0 : ∀ t, Steps p.tables e below (s₁.setTop (mkF m 0 #[.val (.ref xu), .unset, .unset, .unset, .unset] [])) t → Steps p.tables e below (s₁.setTop (entryFrame m #[(.ref xu)] 5)) t := fun t k => castTop (ef_rmF1 m xu) k
  have hwsE : ∀ d ∈ StrChars.Road.wordsEq, d.before a0 Z = true := fun d hd => hw d ((by decide +kernel : ∀ d ∈ StrChars.Road.wordsEq, d ∈ tables_1) d hd)
  obtain ⟨_, _, ⟨T1, L1, k1, n1⟩, -, X1, ⟨Lc1, hQ1, l1, y1, z1⟩, st1⟩ := Jvm.LawKit.callS X0 hx (y := (⟨"com/example/nevermind/nevermind/graphs/NodeType", "values", "()[Lcom/example/nevermind/nevermind/graphs/NodeType;"⟩ : MethodName)) hown (mvT hZ (hw _ (List.mem_of_getElem? (i := 37) rfl))) (mvT hZ (hw _ (List.mem_of_getElem? (i := 38) rfl))) (mvT hZ (hw _ (List.mem_of_getElem? (i := 3) rfl))) (mvT hZ (hw _ (List.mem_of_getElem? (i := 39) rfl))) (by decide) (backOf (W := 0) (rmV l Z a0 hw [] wV kV w_START w_TASK w_WAIT w_FORK w_JOIN w_SUCCESS h0 n0 Z0 S_V V_V E_V) hZ (hw _ (List.mem_of_getElem? (i := 39) rfl)) (hw _ (List.mem_of_getElem? (i := 3) rfl)) (by decide) (by decide)) (g := (mkF m 0 #[.val (.ref xu), .unset, .unset, .unset, .unset] [])) rfl (by rw [hml]; rfl) (argsL := []) (rest := []) (lenOf pd_rmF1_0 rfl) rfl (by show 2 * 0 + _ ≤ _; exact Nat.le_of_eq rfl) (hb hby d7_0) (fun _ _ => ⟨rfl, e0, (by decide : 0 + 1 ≤ _), (by decide : 0 + 6 ≤ _)⟩)
  dsimp only [Pt.U, Pt.locs, Pt.cells, Pt.slots] at X1 l1 y1 z1 st1 hQ1
  subst l1 y1 z1
  obtain ⟨b1, rfl, N1q, E1q, V1q⟩ := hQ1
  have N1 := Fr.app N0 N1q
  have K1 : Keep h0 T1.heap [] := ((Keep.refl h0 [])).ext E1q
  obtain ⟨cl2, Ar2, q2, S2, N2_, H2, G2⟩ := id V1q
  obtain ⟨cl3, Ar3, q3, S3, N3_, H3, G3⟩ := id V1q
  obtain ⟨T4, X4, e4, st4⟩ := getF X1 hx hZ hown (host := "") (Or.inl (hw _ (List.mem_of_getElem? (i := 57) rfl))) Via.refl rfl (Fld.ext E1q s0F) (g := (mkF m 21 #[.val (.ref xu), .val (.ref b1), .val (.int (6 : Int32)), .val (.int (0 : Int32)), .val (.ref w_START)] [(.ref w_START)])) rfl rfl (hb hby d7_21)
  obtain ⟨cq5, kq5, q5a, q5b, q5c⟩ := isOf hZ e4 (Exa.ext E1q s0E)
  obtain ⟨_, _, ⟨T5, L5, k5, n5⟩, -, X5, ⟨Lc5, hQ5, l5, y5, z5⟩, st5⟩ := X4.virtualBack hx (y := (⟨"java/lang/String", "equals", "(Ljava/lang/Object;)Z"⟩ : MethodName)) (z := (⟨"java/lang/String", "equals", "(Ljava/lang/Object;)Z"⟩ : MethodName)) hown (mvT hZ (hw _ (List.mem_of_getElem? (i := 59) rfl))) (mvT hZ (hw _ (List.mem_of_getElem? (i := 60) rfl))) (notFace_of_selects (args := #[]) (mvT hZ (hw _ (List.mem_of_getElem? (i := 62) rfl)))) (mvT hZ (hw _ (List.mem_of_getElem? (i := 62) rfl))) (mvT hZ (hw _ (List.mem_of_getElem? (i := 61) rfl))) (by decide) (StrChars.Road.eqW (W := 0) hZ hwsE (kI := 4) (hw _ (List.mem_of_getElem? (i := 6) rfl)) (Exa.ext E1q s0E) (Fld.ext E1q s0V) (Fld.ext E1q s0C) (s0K.ext E1q) own_cod0 own_b0 (by decide) (Exa.ext E1q xE) (Fld.ext E1q xV) (Fld.ext E1q xC) (xK.ext E1q) own_cod1 own_b1 (by decide) (Sta.ext E1q S_C) hzc (by decide) (by decide)) q5a q5c (g := (mkF m 25 #[.val (.ref xu), .val (.ref b1), .val (.int (6 : Int32)), .val (.int (0 : Int32)), .val (.ref w_START)] [(.ref xu), (.ref s0u)])) rfl (by rw [hml]; rfl) (Steps.refl _) (argsL := [(.ref xu)]) (rest := []) (lenOf pd_rmF1_1 rfl) rfl (by show 2 * 0 + _ ≤ _; exact Nat.le_of_eq rfl) (hb hby d7_25) (fun _ _ => ⟨rfl, e4, (by decide : 1 + 0 ≤ _), (by decide : 6 + 0 ≤ _)⟩)
  dsimp only [Pt.U, Pt.locs, Pt.cells, Pt.slots] at X5 l5 y5 z5 st5 hQ5
  subst l5 y5 z5
  rcases hQ5 with ⟨⟨hv5, hd5⟩ | ⟨hv5, hd5⟩, hl5, e5⟩
  · exact absurd hd5 (by decide)
  subst hv5 hl5
  have N5 := Fr.app N1 (Fr.nil n0)
  obtain ⟨cl6, Ar6, q6, S6, N6_, H6, G6⟩ := id V1q
  obtain ⟨T7, X7, e7, st7⟩ := getF X5 hx hZ hown (host := "") (Or.inl (hw _ (List.mem_of_getElem? (i := 57) rfl))) Via.refl e5 (Fld.ext E1q s1F) (g := (mkF m 21 #[.val (.ref xu), .val (.ref b1), .val (.int (6 : Int32)), .val (.int (1 : Int32)), .val (.ref w_TASK)] [(.ref w_TASK)])) rfl rfl (hb hby d7_21)
  obtain ⟨cq8, kq8, q8a, q8b, q8c⟩ := isOf hZ e7 (Exa.ext E1q s1E)
  obtain ⟨_, _, ⟨T8, L8, k8, n8⟩, -, X8, ⟨Lc8, hQ8, l8, y8, z8⟩, st8⟩ := X7.virtualBack hx (y := (⟨"java/lang/String", "equals", "(Ljava/lang/Object;)Z"⟩ : MethodName)) (z := (⟨"java/lang/String", "equals", "(Ljava/lang/Object;)Z"⟩ : MethodName)) hown (mvT hZ (hw _ (List.mem_of_getElem? (i := 59) rfl))) (mvT hZ (hw _ (List.mem_of_getElem? (i := 60) rfl))) (notFace_of_selects (args := #[]) (mvT hZ (hw _ (List.mem_of_getElem? (i := 62) rfl)))) (mvT hZ (hw _ (List.mem_of_getElem? (i := 62) rfl))) (mvT hZ (hw _ (List.mem_of_getElem? (i := 61) rfl))) (by decide) (StrChars.Road.eqW (W := 0) hZ hwsE (kI := 4) (hw _ (List.mem_of_getElem? (i := 6) rfl)) (Exa.ext E1q s1E) (Fld.ext E1q s1V) (Fld.ext E1q s1C) (s1K.ext E1q) own_cod1 own_b1 (by decide) (Exa.ext E1q xE) (Fld.ext E1q xV) (Fld.ext E1q xC) (xK.ext E1q) own_cod1 own_b1 (by decide) (Sta.ext E1q S_C) hzc (by decide) (by decide)) q8a q8c (g := (mkF m 25 #[.val (.ref xu), .val (.ref b1), .val (.int (6 : Int32)), .val (.int (1 : Int32)), .val (.ref w_TASK)] [(.ref xu), (.ref s1u)])) rfl (by rw [hml]; rfl) (Steps.refl _) (argsL := [(.ref xu)]) (rest := []) (lenOf pd_rmF1_1 rfl) rfl (by show 2 * 0 + _ ≤ _; exact Nat.le_of_eq rfl) (hb hby d7_25) (fun _ _ => ⟨rfl, e7, (by decide : 1 + 0 ≤ _), (by decide : 6 + 0 ≤ _)⟩)
  dsimp only [Pt.U, Pt.locs, Pt.cells, Pt.slots] at X8 l8 y8 z8 st8 hQ8
  subst l8 y8 z8
  rcases hQ8 with ⟨⟨hv8, hd8⟩ | ⟨hv8, hd8⟩, hl8, e8⟩
  rotate_left
  · exact absurd rfl hd8
  subst hv8 hl8
  have N8 := Fr.app N5 (Fr.nil n0)
  obtain ⟨fs, hr, hrun, hended, hW, hsame⟩ := X8.leave (v := some (.ref w_TASK)) (fun h => by rw [Bd.returns] at h; cases h)
  refine ⟨_, _, pre0 _ ?_, hrun, hended, _, _, rfl, ?_, ⟨_, rfl⟩, hW, hsame.mono (by decide) (by decide)⟩
  · show Steps p.tables e below (s₁.setTop (mkF m 0 #[.val (.ref xu), .unset, .unset, .unset, .unset] [])) _
    refine st1 _ ?_
    show Steps p.tables e below (T1.setTop (mkF m 3 #[.val (.ref xu), .unset, .unset, .unset, .unset] [(.ref b1)])) _
    refine XS.astoreN X1.here hx rfl (hb hby d7_3) rfl rfl (l' := #[.val (.ref xu), .val (.ref b1), .unset, .unset, .unset]) rfl ?_
    show Steps p.tables e below (T1.setTop (mkF m 4 #[.val (.ref xu), .val (.ref b1), .unset, .unset, .unset] [])) _
    refine XS.aloadN X1.here hx rfl (hb hby d7_4) rfl rfl ?_
    show Steps p.tables e below (T1.setTop (mkF m 5 #[.val (.ref xu), .val (.ref b1), .unset, .unset, .unset] [(.ref b1)])) _
    refine X1.arraylength hx (Ar2.1) (State.isArrayOf_alike hZ.alike Ar2.2.1) (g := (mkF m 5 #[.val (.ref xu), .val (.ref b1), .unset, .unset, .unset] [(.ref b1)])) rfl rfl (hb hby d7_5) _ ?_
    rw [len_of S2 N2_]
    show Steps p.tables e below (T1.setTop (mkF m 6 #[.val (.ref xu), .val (.ref b1), .unset, .unset, .unset] [(.int (6 : Int32))])) _
    refine XS.istoreN X1.here hx rfl (hb hby d7_6) rfl (l' := #[.val (.ref xu), .val (.ref b1), .val (.int (6 : Int32)), .unset, .unset]) rfl ?_
    show Steps p.tables e below (T1.setTop (mkF m 7 #[.val (.ref xu), .val (.ref b1), .val (.int (6 : Int32)), .unset, .unset] [])) _
    refine XS.iconst X1.here hx rfl (hb hby d7_7) ?_
    show Steps p.tables e below (T1.setTop (mkF m 8 #[.val (.ref xu), .val (.ref b1), .val (.int (6 : Int32)), .unset, .unset] [(.int (0 : Int32))])) _
    refine XS.istoreN X1.here hx rfl (hb hby d7_8) rfl (l' := #[.val (.ref xu), .val (.ref b1), .val (.int (6 : Int32)), .val (.int (0 : Int32)), .unset]) rfl ?_
    show Steps p.tables e below (T1.setTop (mkF m 9 #[.val (.ref xu), .val (.ref b1), .val (.int (6 : Int32)), .val (.int (0 : Int32)), .unset] [])) _
    refine XS.iloadN X1.here hx rfl (hb hby d7_9) rfl ?_
    show Steps p.tables e below (T1.setTop (mkF m 10 #[.val (.ref xu), .val (.ref b1), .val (.int (6 : Int32)), .val (.int (0 : Int32)), .unset] [(.int (0 : Int32))])) _
    refine XS.iloadN X1.here hx rfl (hb hby d7_10) rfl ?_
    show Steps p.tables e below (T1.setTop (mkF m 11 #[.val (.ref xu), .val (.ref b1), .val (.int (6 : Int32)), .val (.int (0 : Int32)), .unset] [(.int (6 : Int32)), (.int (0 : Int32))])) _
    refine XS.icmpNo X1.here hx rfl (hb hby d7_11) rfl (tlt (by decide : (0 : Int32) < (6 : Int32))).2.1 ?_
    show Steps p.tables e below (T1.setTop (mkF m 14 #[.val (.ref xu), .val (.ref b1), .val (.int (6 : Int32)), .val (.int (0 : Int32)), .unset] [])) _
    refine XS.aloadN X1.here hx rfl (hb hby d7_14) rfl rfl ?_
    show Steps p.tables e below (T1.setTop (mkF m 15 #[.val (.ref xu), .val (.ref b1), .val (.int (6 : Int32)), .val (.int (0 : Int32)), .unset] [(.ref b1)])) _
    refine XS.iloadN X1.here hx rfl (hb hby d7_15) rfl ?_
    show Steps p.tables e below (T1.setTop (mkF m 16 #[.val (.ref xu), .val (.ref b1), .val (.int (6 : Int32)), .val (.int (0 : Int32)), .unset] [(.int (0 : Int32)), (.ref b1)])) _
    refine X1.aaload hx (j := (0 : Int32)) (v := (.ref w_START)) (Ar3.1) (State.isArrayOf_alike hZ.alike Ar3.2.1) rfl Ar3.2.2 (inb_of S3 ⟨by decide, by decide⟩) (show cl3.slots[((0 : Int32)).toNatClampNeg]? = some (.ref w_START) from H3 0 (by rw [S3]; decide)) (g := (mkF m 16 #[.val (.ref xu), .val (.ref b1), .val (.int (6 : Int32)), .val (.int (0 : Int32)), .unset] [(.int (0 : Int32)), (.ref b1)])) rfl rfl (hb hby d7_16) _ ?_
    show Steps p.tables e below (T1.setTop (mkF m 17 #[.val (.ref xu), .val (.ref b1), .val (.int (6 : Int32)), .val (.int (0 : Int32)), .unset] [(.ref w_START)])) _
    refine XS.astore X1.here hx rfl (hb hby d7_17) rfl rfl (l' := #[.val (.ref xu), .val (.ref b1), .val (.int (6 : Int32)), .val (.int (0 : Int32)), .val (.ref w_START)]) rfl ?_
    show Steps p.tables e below (T1.setTop (mkF m 19 #[.val (.ref xu), .val (.ref b1), .val (.int (6 : Int32)), .val (.int (0 : Int32)), .val (.ref w_START)] [])) _
    refine XS.aload X1.here hx rfl (hb hby d7_19) rfl rfl ?_
    show Steps p.tables e below (T1.setTop (mkF m 21 #[.val (.ref xu), .val (.ref b1), .val (.int (6 : Int32)), .val (.int (0 : Int32)), .val (.ref w_START)] [(.ref w_START)])) _
    refine st4 _ ?_
    show Steps p.tables e below (T4.setTop (mkF m 24 #[.val (.ref xu), .val (.ref b1), .val (.int (6 : Int32)), .val (.int (0 : Int32)), .val (.ref w_START)] [(.ref s0u)])) _
    refine XS.aloadN X4.here hx rfl (hb hby d7_24) rfl rfl ?_
    show Steps p.tables e below (T4.setTop (mkF m 25 #[.val (.ref xu), .val (.ref b1), .val (.int (6 : Int32)), .val (.int (0 : Int32)), .val (.ref w_START)] [(.ref xu), (.ref s0u)])) _
    refine st5.trans ?_
    show Steps p.tables e below (T5.setTop (mkF m 28 #[.val (.ref xu), .val (.ref b1), .val (.int (6 : Int32)), .val (.int (0 : Int32)), .val (.ref w_START)] [(.int (0 : Int32))])) _
    refine XS.ifYes X5.here hx rfl (pc0 := 28) (pc' := 34) rfl (hb hby d7_28) rfl ((if0 _ _).trans (teq (rfl : (0 : Int32) = (0 : Int32))).1) (by decide) (by decide) ?_
    show Steps p.tables e below (T5.setTop (mkF m 34 #[.val (.ref xu), .val (.ref b1), .val (.int (6 : Int32)), .val (.int (0 : Int32)), .val (.ref w_START)] [])) _
    refine XS.iinc X5.here hx rfl (hb hby d7_34) rfl (l' := #[.val (.ref xu), .val (.ref b1), .val (.int (6 : Int32)), .val (.int (1 : Int32)), .val (.ref w_START)]) rfl ?_
    show Steps p.tables e below (T5.setTop (mkF m 37 #[.val (.ref xu), .val (.ref b1), .val (.int (6 : Int32)), .val (.int (1 : Int32)), .val (.ref w_START)] [])) _
    refine XS.goto X5.here hx rfl (pc0 := 37) (pc' := 9) rfl (hb hby d7_37) (by decide) (by decide) ?_
    show Steps p.tables e below (T5.setTop (mkF m 9 #[.val (.ref xu), .val (.ref b1), .val (.int (6 : Int32)), .val (.int (1 : Int32)), .val (.ref w_START)] [])) _
    refine XS.iloadN X5.here hx rfl (hb hby d7_9) rfl ?_
    show Steps p.tables e below (T5.setTop (mkF m 10 #[.val (.ref xu), .val (.ref b1), .val (.int (6 : Int32)), .val (.int (1 : Int32)), .val (.ref w_START)] [(.int (1 : Int32))])) _
    refine XS.iloadN X5.here hx rfl (hb hby d7_10) rfl ?_
    show Steps p.tables e below (T5.setTop (mkF m 11 #[.val (.ref xu), .val (.ref b1), .val (.int (6 : Int32)), .val (.int (1 : Int32)), .val (.ref w_START)] [(.int (6 : Int32)), (.int (1 : Int32))])) _
    refine XS.icmpNo X5.here hx rfl (hb hby d7_11) rfl (tlt (by decide : (1 : Int32) < (6 : Int32))).2.1 ?_
    show Steps p.tables e below (T5.setTop (mkF m 14 #[.val (.ref xu), .val (.ref b1), .val (.int (6 : Int32)), .val (.int (1 : Int32)), .val (.ref w_START)] [])) _
    refine XS.aloadN X5.here hx rfl (hb hby d7_14) rfl rfl ?_
    show Steps p.tables e below (T5.setTop (mkF m 15 #[.val (.ref xu), .val (.ref b1), .val (.int (6 : Int32)), .val (.int (1 : Int32)), .val (.ref w_START)] [(.ref b1)])) _
    refine XS.iloadN X5.here hx rfl (hb hby d7_15) rfl ?_
    show Steps p.tables e below (T5.setTop (mkF m 16 #[.val (.ref xu), .val (.ref b1), .val (.int (6 : Int32)), .val (.int (1 : Int32)), .val (.ref w_START)] [(.int (1 : Int32)), (.ref b1)])) _
    refine X5.aaload hx (j := (1 : Int32)) (v := (.ref w_TASK)) (by rw [e5]; exact Ar6.1) (State.isArrayOf_alike hZ.alike Ar6.2.1) rfl Ar6.2.2 (inb_of S6 ⟨by decide, by decide⟩) (show cl6.slots[((1 : Int32)).toNatClampNeg]? = some (.ref w_TASK) from H6 1 (by rw [S6]; decide)) (g := (mkF m 16 #[.val (.ref xu), .val (.ref b1), .val (.int (6 : Int32)), .val (.int (1 : Int32)), .val (.ref w_START)] [(.int (1 : Int32)), (.ref b1)])) rfl rfl (hb hby d7_16) _ ?_
    show Steps p.tables e below (T5.setTop (mkF m 17 #[.val (.ref xu), .val (.ref b1), .val (.int (6 : Int32)), .val (.int (1 : Int32)), .val (.ref w_START)] [(.ref w_TASK)])) _
    refine XS.astore X5.here hx rfl (hb hby d7_17) rfl rfl (l' := #[.val (.ref xu), .val (.ref b1), .val (.int (6 : Int32)), .val (.int (1 : Int32)), .val (.ref w_TASK)]) rfl ?_
    show Steps p.tables e below (T5.setTop (mkF m 19 #[.val (.ref xu), .val (.ref b1), .val (.int (6 : Int32)), .val (.int (1 : Int32)), .val (.ref w_TASK)] [])) _
    refine XS.aload X5.here hx rfl (hb hby d7_19) rfl rfl ?_
    show Steps p.tables e below (T5.setTop (mkF m 21 #[.val (.ref xu), .val (.ref b1), .val (.int (6 : Int32)), .val (.int (1 : Int32)), .val (.ref w_TASK)] [(.ref w_TASK)])) _
    refine st7 _ ?_
    show Steps p.tables e below (T7.setTop (mkF m 24 #[.val (.ref xu), .val (.ref b1), .val (.int (6 : Int32)), .val (.int (1 : Int32)), .val (.ref w_TASK)] [(.ref s1u)])) _
    refine XS.aloadN X7.here hx rfl (hb hby d7_24) rfl rfl ?_
    show Steps p.tables e below (T7.setTop (mkF m 25 #[.val (.ref xu), .val (.ref b1), .val (.int (6 : Int32)), .val (.int (1 : Int32)), .val (.ref w_TASK)] [(.ref xu), (.ref s1u)])) _
    refine st8.trans ?_
    show Steps p.tables e below (T8.setTop (mkF m 28 #[.val (.ref xu), .val (.ref b1), .val (.int (6 : Int32)), .val (.int (1 : Int32)), .val (.ref w_TASK)] [(.int (1 : Int32))])) _
    refine XS.ifNo X8.here hx rfl (hb hby d7_28) rfl ((if0 _ _).trans (feq (by decide : ¬ ((1 : Int32) = (0 : Int32)))).1) ?_
    show Steps p.tables e below (T8.setTop (mkF m 31 #[.val (.ref xu), .val (.ref b1), .val (.int (6 : Int32)), .val (.int (1 : Int32)), .val (.ref w_TASK)] [])) _
    refine XS.aload X8.here hx rfl (hb hby d7_31) rfl rfl ?_
    show Steps p.tables e below (T8.setTop (mkF m 33 #[.val (.ref xu), .val (.ref b1), .val (.int (6 : Int32)), .val (.int (1 : Int32)), .val (.ref w_TASK)] [(.ref w_TASK)])) _
    jvm_step X8.here [X8.here.top, hx, (hb hby d7_33), X8.method', Bd.returns, Value.isRef, FieldType.isReference]
    first | (intro acts; rw [hr _ acts rfl rfl rfl]) | rw [hr _ _ rfl rfl rfl]
    exact Steps.refl _
  · show Q_rmF1 Z xu xt xk wV kV w_START w_TASK w_WAIT w_FORK w_JOIN w_SUCCESS s0u s0t s0k s1u s1t s1k s2u s2t s2k s3u s3t s3k s4u s4t s4k s5u s5t s5k zc h0 n0 _ T8.heap _
    rw [e8]
    exact ⟨rfl, N8, own_keep_ext K1⟩
theorem pn_rmF2 : plainName "com/example/nevermind/nevermind/graphs/NodeType" = true := by first | (simp [plainName, overriddenIn]; done) | decide +kernel
theorem pd_rmF2_0 : parseMethodDescriptor "()[Lcom/example/nevermind/nevermind/graphs/NodeType;" = some ⟨[], some (.array (.object "com/example/nevermind/nevermind/graphs/NodeType"))⟩ := by decide +kernel
theorem pd_rmF2_1 : parseMethodDescriptor "(Ljava/lang/Object;)Z" = some ⟨[(.object "java/lang/Object")], some .boolean⟩ := by decide +kernel
theorem ef_rmF2 (m : MethodId) (xu : Addr) : entryFrame m #[(.ref xu)] 5 = mkF m 0 #[.val (.ref xu), .unset, .unset, .unset, .unset] [] := by first | (simp [entryFrame, mkF, argsToLocals, Value.category]; done) | rfl
def Q_rmF2 (Z : State) (xu : Addr) (xt : Addr) (xk : ClassId) (wV : Addr) (kV : ClassId) (w_START : Addr) (w_TASK : Addr) (w_WAIT : Addr) (w_FORK : Addr) (w_JOIN : Addr) (w_SUCCESS : Addr) (s0u : Addr) (s0t : Addr) (s0k : ClassId) (s1u : Addr) (s1t : Addr) (s1k : ClassId) (s2u : Addr) (s2t : Addr) (s2k : ClassId) (s3u : Addr) (s3t : Addr) (s3k : ClassId) (s4u : Addr) (s4t : Addr) (s4k : ClassId) (s5u : Addr) (s5t : Addr) (s5k : ClassId) (zc : Int32) (h0 : Heap) (n0 : Nat) (v : Option Value) (h : Heap) (L : List Loc) : Prop := v = some (.ref w_WAIT) ∧ Fr n0 L ∧ Ext h0 h
set_option maxRecDepth 65536 in
set_option maxHeartbeats 40000000 in
theorem rmF2 (l : Launch) (Z : State) (a0 : Array Value) (hw : ∀ d ∈ tables_1, d.before a0 Z = true) (ws : List Jvm.Cond) (xu : Addr) (xt : Addr) (xk : ClassId) (wV : Addr) (kV : ClassId) (w_START : Addr) (w_TASK : Addr) (w_WAIT : Addr) (w_FORK : Addr) (w_JOIN : Addr) (w_SUCCESS : Addr) (s0u : Addr) (s0t : Addr) (s0k : ClassId) (s1u : Addr) (s1t : Addr) (s1k : ClassId) (s2u : Addr) (s2t : Addr) (s2k : ClassId) (s3u : Addr) (s3t : Addr) (s3k : ClassId) (s4u : Addr) (s4t : Addr) (s4k : ClassId) (s5u : Addr) (s5t : Addr) (s5k : ClassId) (zc : Int32) (h0 : Heap) (n0 : Nat) (Z0 : n0 ≤ h0.size) (xE : Exa Z h0 xu "java/lang/String") (xV : Fld Z h0 xu "java/lang/String" "value" "[B" (.ref xt)) (xC : Fld Z h0 xu "java/lang/String" "coder" "B" (.int (0 : Int32))) (xK : Arv Z h0 xt xk .byte (4 : Int32) (cs2.map Value.int) (.int 0)) (S_V : Sta Z h0 "com/example/nevermind/nevermind/graphs/NodeType" "$VALUES" "[Lcom/example/nevermind/nevermind/graphs/NodeType;" (.ref wV)) (V_V : Arv Z h0 wV kV (.object "com/example/nevermind/nevermind/graphs/NodeType") (6 : Int32) [.ref w_START, .ref w_TASK, .ref w_WAIT, .ref w_FORK, .ref w_JOIN, .ref w_SUCCESS] .null) (E_V : Exa Z h0 wV "[Lcom/example/nevermind/nevermind/graphs/NodeType;") (s0F : Fld Z h0 w_START "com/example/nevermind/nevermind/graphs/NodeType" "wireName" "Ljava/lang/String;" (.ref s0u)) (s0E : Exa Z h0 s0u "java/lang/String") (s0V : Fld Z h0 s0u "java/lang/String" "value" "[B" (.ref s0t)) (s0C : Fld Z h0 s0u "java/lang/String" "coder" "B" (.int (0 : Int32))) (s0K : Arv Z h0 s0t s0k .byte (5 : Int32) (cs0.map Value.int) (.int 0)) (s1F : Fld Z h0 w_TASK "com/example/nevermind/nevermind/graphs/NodeType" "wireName" "Ljava/lang/String;" (.ref s1u)) (s1E : Exa Z h0 s1u "java/lang/String") (s1V : Fld Z h0 s1u "java/lang/String" "value" "[B" (.ref s1t)) (s1C : Fld Z h0 s1u "java/lang/String" "coder" "B" (.int (0 : Int32))) (s1K : Arv Z h0 s1t s1k .byte (4 : Int32) (cs1.map Value.int) (.int 0)) (s2F : Fld Z h0 w_WAIT "com/example/nevermind/nevermind/graphs/NodeType" "wireName" "Ljava/lang/String;" (.ref s2u)) (s2E : Exa Z h0 s2u "java/lang/String") (s2V : Fld Z h0 s2u "java/lang/String" "value" "[B" (.ref s2t)) (s2C : Fld Z h0 s2u "java/lang/String" "coder" "B" (.int (0 : Int32))) (s2K : Arv Z h0 s2t s2k .byte (4 : Int32) (cs2.map Value.int) (.int 0)) (s3F : Fld Z h0 w_FORK "com/example/nevermind/nevermind/graphs/NodeType" "wireName" "Ljava/lang/String;" (.ref s3u)) (s3E : Exa Z h0 s3u "java/lang/String") (s3V : Fld Z h0 s3u "java/lang/String" "value" "[B" (.ref s3t)) (s3C : Fld Z h0 s3u "java/lang/String" "coder" "B" (.int (0 : Int32))) (s3K : Arv Z h0 s3t s3k .byte (4 : Int32) (cs3.map Value.int) (.int 0)) (s4F : Fld Z h0 w_JOIN "com/example/nevermind/nevermind/graphs/NodeType" "wireName" "Ljava/lang/String;" (.ref s4u)) (s4E : Exa Z h0 s4u "java/lang/String") (s4V : Fld Z h0 s4u "java/lang/String" "value" "[B" (.ref s4t)) (s4C : Fld Z h0 s4u "java/lang/String" "coder" "B" (.int (0 : Int32))) (s4K : Arv Z h0 s4t s4k .byte (4 : Int32) (cs4.map Value.int) (.int 0)) (s5F : Fld Z h0 w_SUCCESS "com/example/nevermind/nevermind/graphs/NodeType" "wireName" "Ljava/lang/String;" (.ref s5u)) (s5E : Exa Z h0 s5u "java/lang/String") (s5V : Fld Z h0 s5u "java/lang/String" "value" "[B" (.ref s5t)) (s5C : Fld Z h0 s5u "java/lang/String" "coder" "B" (.int (0 : Int32))) (s5K : Arv Z h0 s5t s5k .byte (7 : Int32) (cs5.map Value.int) (.int 0)) (S_C : Sta Z h0 "java/lang/String" "COMPACT_STRINGS" "Z" (.int zc)) (hzc : ¬ zc = 0) :
    MetFree l (⟨"com/example/nevermind/nevermind/graphs/NodeType", "fromWireName", "(Ljava/lang/String;)Lcom/example/nevermind/nevermind/graphs/NodeType;"⟩ : MethodName) (head1 (Jvm.Cond.code (⟨"com/example/nevermind/nevermind/graphs/NodeType", "fromWireName", "(Ljava/lang/String;)Lcom/example/nevermind/nevermind/graphs/NodeType;"⟩ : MethodName) prog_9_method_5_code 5 (some (.object "com/example/nevermind/nevermind/graphs/NodeType")) :: ws) ({ frames := 2, cells := 1, slots := 6, locals := 28 } : Room)) (fun a U => a = #[(.ref xu)] ∧ Z.Warmed39 U.vm ∧ U.heap = h0) (fun _ _ _ _ _ => True) (fun _ U o U' => ∃ v L, o = .returned v ∧ Q_rmF2 Z xu xt xk wV kV w_START w_TASK w_WAIT w_FORK w_JOIN w_SUCCESS s0u s0t s0k s1u s1t s1k s2u s2t s2k s3u s3t s3k s4u s4t s4k s5u s5t s5k zc h0 n0 v U'.heap L ∧ FrameEnd U o U' L ({ frames := 2, cells := 1, slots := 6, locals := 28 } : Room).cells ({ frames := 2, cells := 1, slots := 6, locals := 28 } : Room).slots) := by
  refine MetFree.of_bodySF (plainFor_of_name pn_rmF2) hisR ?_
  intro p e s m args below meth c s₁ Bd hml0 hP hK
  obtain ⟨rfl, hZ, hh⟩ := hP
  have hx := Bd.exec
  have hby := Bd.bytes
  have hml : c.maxLocals = 5 := hml0
  have hown : s.vm.findClass "com/example/nevermind/nevermind/graphs/NodeType" = some m.cls := findClass_of_methodNamed Bd.named
  have hnm := (name_of_methodNamed Bd.named Bd.method).1
  have X0 : Stand p l e ({ frames := 2, cells := 1, slots := 6, locals := 28 } : Room) s m #[(.ref xu)] below meth c s₁ [] 0 0 := Stand.of_body Bd
  have e0 : s₁.heap = h0 := by rw [← hh, Bd.state]; rfl
  have N0 := Fr.nil n0
  have pre0 : ∀ t, Steps p.tables e below (s₁.setTop (mkF m 0 #[.val (.ref xu), .unset, .unset, .unset, .unset] [])) t → Steps p.tables e below (s₁.setTop (entryFrame m #[(.ref xu)] 5)) t := fun t k => castTop (ef_rmF2 m xu) k
  have hwsE : ∀ d ∈ StrChars.Road.wordsEq, d.before a0 Z = true := fun d hd => hw d ((by decide +kernel : ∀ d ∈ StrChars.Road.wordsEq, d ∈ tables_1) d hd)
  obtain ⟨_, _, ⟨T1, L1, k1, n1⟩, -, X1, ⟨Lc1, hQ1, l1, y1, z1⟩, st1⟩ := Jvm.LawKit.callS X0 hx (y := (⟨"com/example/nevermind/nevermind/graphs/NodeType", "values", "()[Lcom/example/nevermind/nevermind/graphs/NodeType;"⟩ : MethodName)) hown (mvT hZ (hw _ (List.mem_of_getElem? (i := 37) rfl))) (mvT hZ (hw _ (List.mem_of_getElem? (i := 38) rfl))) (mvT hZ (hw _ (List.mem_of_getElem? (i := 3) rfl))) (mvT hZ (hw _ (List.mem_of_getElem? (i := 39) rfl))) (by decide) (backOf (W := 0) (rmV l Z a0 hw [] wV kV w_START w_TASK w_WAIT w_FORK w_JOIN w_SUCCESS h0 n0 Z0 S_V V_V E_V) hZ (hw _ (List.mem_of_getElem? (i := 39) rfl)) (hw _ (List.mem_of_getElem? (i := 3) rfl)) (by decide) (by decide)) (g := (mkF m 0 #[.val (.ref xu), .unset, .unset, .unset, .unset] [])) rfl (by rw [hml]; rfl) (argsL := []) (rest := []) (lenOf pd_rmF2_0 rfl) rfl (by show 2 * 0 + _ ≤ _; exact Nat.le_of_eq rfl) (hb hby d7_0) (fun _ _ => ⟨rfl, e0, (by decide : 0 + 1 ≤ _), (by decide : 0 + 6 ≤ _)⟩)
  dsimp only [Pt.U, Pt.locs, Pt.cells, Pt.slots] at X1 l1 y1 z1 st1 hQ1
  subst l1 y1 z1
  obtain ⟨b1, rfl, N1q, E1q, V1q⟩ := hQ1
  have N1 := Fr.app N0 N1q
  have K1 : Keep h0 T1.heap [] := ((Keep.refl h0 [])).ext E1q
  obtain ⟨cl2, Ar2, q2, S2, N2_, H2, G2⟩ := id V1q
  obtain ⟨cl3, Ar3, q3, S3, N3_, H3, G3⟩ := id V1q
  obtain ⟨T4, X4, e4, st4⟩ := getF X1 hx hZ hown (host := "") (Or.inl (hw _ (List.mem_of_getElem? (i := 57) rfl))) Via.refl rfl (Fld.ext E1q s0F) (g := (mkF m 21 #[.val (.ref xu), .val (.ref b1), .val (.int (6 : Int32)), .val (.int (0 : Int32)), .val (.ref w_START)] [(.ref w_START)])) rfl rfl (hb hby d7_21)
  obtain ⟨cq5, kq5, q5a, q5b, q5c⟩ := isOf hZ e4 (Exa.ext E1q s0E)
  obtain ⟨_, _, ⟨T5, L5, k5, n5⟩, -, X5, ⟨Lc5, hQ5, l5, y5, z5⟩, st5⟩ := X4.virtualBack hx (y := (⟨"java/lang/String", "equals", "(Ljava/lang/Object;)Z"⟩ : MethodName)) (z := (⟨"java/lang/String", "equals", "(Ljava/lang/Object;)Z"⟩ : MethodName)) hown (mvT hZ (hw _ (List.mem_of_getElem? (i := 59) rfl))) (mvT hZ (hw _ (List.mem_of_getElem? (i := 60) rfl))) (notFace_of_selects (args := #[]) (mvT hZ (hw _ (List.mem_of_getElem? (i := 62) rfl)))) (mvT hZ (hw _ (List.mem_of_getElem? (i := 62) rfl))) (mvT hZ (hw _ (List.mem_of_getElem? (i := 61) rfl))) (by decide) (StrChars.Road.eqW (W := 0) hZ hwsE (kI := 4) (hw _ (List.mem_of_getElem? (i := 6) rfl)) (Exa.ext E1q s0E) (Fld.ext E1q s0V) (Fld.ext E1q s0C) (s0K.ext E1q) own_cod0 own_b0 (by decide) (Exa.ext E1q xE) (Fld.ext E1q xV) (Fld.ext E1q xC) (xK.ext E1q) own_cod2 own_b2 (by decide) (Sta.ext E1q S_C) hzc (by decide) (by decide)) q5a q5c (g := (mkF m 25 #[.val (.ref xu), .val (.ref b1), .val (.int (6 : Int32)), .val (.int (0 : Int32)), .val (.ref w_START)] [(.ref xu), (.ref s0u)])) rfl (by rw [hml]; rfl) (Steps.refl _) (argsL := [(.ref xu)]) (rest := []) (lenOf pd_rmF2_1 rfl) rfl (by show 2 * 0 + _ ≤ _; exact Nat.le_of_eq rfl) (hb hby d7_25) (fun _ _ => ⟨rfl, e4, (by decide : 1 + 0 ≤ _), (by decide : 6 + 0 ≤ _)⟩)
  dsimp only [Pt.U, Pt.locs, Pt.cells, Pt.slots] at X5 l5 y5 z5 st5 hQ5
  subst l5 y5 z5
  rcases hQ5 with ⟨⟨hv5, hd5⟩ | ⟨hv5, hd5⟩, hl5, e5⟩
  · exact absurd hd5 (by decide)
  subst hv5 hl5
  have N5 := Fr.app N1 (Fr.nil n0)
  obtain ⟨cl6, Ar6, q6, S6, N6_, H6, G6⟩ := id V1q
  obtain ⟨T7, X7, e7, st7⟩ := getF X5 hx hZ hown (host := "") (Or.inl (hw _ (List.mem_of_getElem? (i := 57) rfl))) Via.refl e5 (Fld.ext E1q s1F) (g := (mkF m 21 #[.val (.ref xu), .val (.ref b1), .val (.int (6 : Int32)), .val (.int (1 : Int32)), .val (.ref w_TASK)] [(.ref w_TASK)])) rfl rfl (hb hby d7_21)
  obtain ⟨cq8, kq8, q8a, q8b, q8c⟩ := isOf hZ e7 (Exa.ext E1q s1E)
  obtain ⟨_, _, ⟨T8, L8, k8, n8⟩, -, X8, ⟨Lc8, hQ8, l8, y8, z8⟩, st8⟩ := X7.virtualBack hx (y := (⟨"java/lang/String", "equals", "(Ljava/lang/Object;)Z"⟩ : MethodName)) (z := (⟨"java/lang/String", "equals", "(Ljava/lang/Object;)Z"⟩ : MethodName)) hown (mvT hZ (hw _ (List.mem_of_getElem? (i := 59) rfl))) (mvT hZ (hw _ (List.mem_of_getElem? (i := 60) rfl))) (notFace_of_selects (args := #[]) (mvT hZ (hw _ (List.mem_of_getElem? (i := 62) rfl)))) (mvT hZ (hw _ (List.mem_of_getElem? (i := 62) rfl))) (mvT hZ (hw _ (List.mem_of_getElem? (i := 61) rfl))) (by decide) (StrChars.Road.eqW (W := 0) hZ hwsE (kI := 4) (hw _ (List.mem_of_getElem? (i := 6) rfl)) (Exa.ext E1q s1E) (Fld.ext E1q s1V) (Fld.ext E1q s1C) (s1K.ext E1q) own_cod1 own_b1 (by decide) (Exa.ext E1q xE) (Fld.ext E1q xV) (Fld.ext E1q xC) (xK.ext E1q) own_cod2 own_b2 (by decide) (Sta.ext E1q S_C) hzc (by decide) (by decide)) q8a q8c (g := (mkF m 25 #[.val (.ref xu), .val (.ref b1), .val (.int (6 : Int32)), .val (.int (1 : Int32)), .val (.ref w_TASK)] [(.ref xu), (.ref s1u)])) rfl (by rw [hml]; rfl) (Steps.refl _) (argsL := [(.ref xu)]) (rest := []) (lenOf pd_rmF2_1 rfl) rfl (by show 2 * 0 + _ ≤ _; exact Nat.le_of_eq rfl) (hb hby d7_25) (fun _ _ => ⟨rfl, e7, (by decide : 1 + 0 ≤ _), (by decide : 6 + 0 ≤ _)⟩)
  dsimp only [Pt.U, Pt.locs, Pt.cells, Pt.slots] at X8 l8 y8 z8 st8 hQ8
  subst l8 y8 z8
  rcases hQ8 with ⟨⟨hv8, hd8⟩ | ⟨hv8, hd8⟩, hl8, e8⟩
  · exact absurd hd8 (by decide)
  subst hv8 hl8
  have N8 := Fr.app N5 (Fr.nil n0)
  obtain ⟨cl9, Ar9, q9, S9, N9_, H9, G9⟩ := id V1q
  obtain ⟨T10, X10, e10, st10⟩ := getF X8 hx hZ hown (host := "") (Or.inl (hw _ (List.mem_of_getElem? (i := 57) rfl))) Via.refl e8 (Fld.ext E1q s2F) (g := (mkF m 21 #[.val (.ref xu), .val (.ref b1), .val (.int (6 : Int32)), .val (.int (2 : Int32)), .val (.ref w_WAIT)] [(.ref w_WAIT)])) rfl rfl (hb hby d7_21)
  obtain ⟨cq11, kq11, q11a, q11b, q11c⟩ := isOf hZ e10 (Exa.ext E1q s2E)
  obtain ⟨_, _, ⟨T11, L11, k11, n11⟩, -, X11, ⟨Lc11, hQ11, l11, y11, z11⟩, st11⟩ := X10.virtualBack hx (y := (⟨"java/lang/String", "equals", "(Ljava/lang/Object;)Z"⟩ : MethodName)) (z := (⟨"java/lang/String", "equals", "(Ljava/lang/Object;)Z"⟩ : MethodName)) hown (mvT hZ (hw _ (List.mem_of_getElem? (i := 59) rfl))) (mvT hZ (hw _ (List.mem_of_getElem? (i := 60) rfl))) (notFace_of_selects (args := #[]) (mvT hZ (hw _ (List.mem_of_getElem? (i := 62) rfl)))) (mvT hZ (hw _ (List.mem_of_getElem? (i := 62) rfl))) (mvT hZ (hw _ (List.mem_of_getElem? (i := 61) rfl))) (by decide) (StrChars.Road.eqW (W := 0) hZ hwsE (kI := 4) (hw _ (List.mem_of_getElem? (i := 6) rfl)) (Exa.ext E1q s2E) (Fld.ext E1q s2V) (Fld.ext E1q s2C) (s2K.ext E1q) own_cod2 own_b2 (by decide) (Exa.ext E1q xE) (Fld.ext E1q xV) (Fld.ext E1q xC) (xK.ext E1q) own_cod2 own_b2 (by decide) (Sta.ext E1q S_C) hzc (by decide) (by decide)) q11a q11c (g := (mkF m 25 #[.val (.ref xu), .val (.ref b1), .val (.int (6 : Int32)), .val (.int (2 : Int32)), .val (.ref w_WAIT)] [(.ref xu), (.ref s2u)])) rfl (by rw [hml]; rfl) (Steps.refl _) (argsL := [(.ref xu)]) (rest := []) (lenOf pd_rmF2_1 rfl) rfl (by show 2 * 0 + _ ≤ _; exact Nat.le_of_eq rfl) (hb hby d7_25) (fun _ _ => ⟨rfl, e10, (by decide : 1 + 0 ≤ _), (by decide : 6 + 0 ≤ _)⟩)
  dsimp only [Pt.U, Pt.locs, Pt.cells, Pt.slots] at X11 l11 y11 z11 st11 hQ11
  subst l11 y11 z11
  rcases hQ11 with ⟨⟨hv11, hd11⟩ | ⟨hv11, hd11⟩, hl11, e11⟩
  rotate_left
  · exact absurd rfl hd11
  subst hv11 hl11
  have N11 := Fr.app N8 (Fr.nil n0)
  obtain ⟨fs, hr, hrun, hended, hW, hsame⟩ := X11.leave (v := some (.ref w_WAIT)) (fun h => by rw [Bd.returns] at h; cases h)
  refine ⟨_, _, pre0 _ ?_, hrun, hended, _, _, rfl, ?_, ⟨_, rfl⟩, hW, hsame.mono (by decide) (by decide)⟩
  · show Steps p.tables e below (s₁.setTop (mkF m 0 #[.val (.ref xu), .unset, .unset, .unset, .unset] [])) _
    refine st1 _ ?_
    show Steps p.tables e below (T1.setTop (mkF m 3 #[.val (.ref xu), .unset, .unset, .unset, .unset] [(.ref b1)])) _
    refine XS.astoreN X1.here hx rfl (hb hby d7_3) rfl rfl (l' := #[.val (.ref xu), .val (.ref b1), .unset, .unset, .unset]) rfl ?_
    show Steps p.tables e below (T1.setTop (mkF m 4 #[.val (.ref xu), .val (.ref b1), .unset, .unset, .unset] [])) _
    refine XS.aloadN X1.here hx rfl (hb hby d7_4) rfl rfl ?_
    show Steps p.tables e below (T1.setTop (mkF m 5 #[.val (.ref xu), .val (.ref b1), .unset, .unset, .unset] [(.ref b1)])) _
    refine X1.arraylength hx (Ar2.1) (State.isArrayOf_alike hZ.alike Ar2.2.1) (g := (mkF m 5 #[.val (.ref xu), .val (.ref b1), .unset, .unset, .unset] [(.ref b1)])) rfl rfl (hb hby d7_5) _ ?_
    rw [len_of S2 N2_]
    show Steps p.tables e below (T1.setTop (mkF m 6 #[.val (.ref xu), .val (.ref b1), .unset, .unset, .unset] [(.int (6 : Int32))])) _
    refine XS.istoreN X1.here hx rfl (hb hby d7_6) rfl (l' := #[.val (.ref xu), .val (.ref b1), .val (.int (6 : Int32)), .unset, .unset]) rfl ?_
    show Steps p.tables e below (T1.setTop (mkF m 7 #[.val (.ref xu), .val (.ref b1), .val (.int (6 : Int32)), .unset, .unset] [])) _
    refine XS.iconst X1.here hx rfl (hb hby d7_7) ?_
    show Steps p.tables e below (T1.setTop (mkF m 8 #[.val (.ref xu), .val (.ref b1), .val (.int (6 : Int32)), .unset, .unset] [(.int (0 : Int32))])) _
    refine XS.istoreN X1.here hx rfl (hb hby d7_8) rfl (l' := #[.val (.ref xu), .val (.ref b1), .val (.int (6 : Int32)), .val (.int (0 : Int32)), .unset]) rfl ?_
    show Steps p.tables e below (T1.setTop (mkF m 9 #[.val (.ref xu), .val (.ref b1), .val (.int (6 : Int32)), .val (.int (0 : Int32)), .unset] [])) _
    refine XS.iloadN X1.here hx rfl (hb hby d7_9) rfl ?_
    show Steps p.tables e below (T1.setTop (mkF m 10 #[.val (.ref xu), .val (.ref b1), .val (.int (6 : Int32)), .val (.int (0 : Int32)), .unset] [(.int (0 : Int32))])) _
    refine XS.iloadN X1.here hx rfl (hb hby d7_10) rfl ?_
    show Steps p.tables e below (T1.setTop (mkF m 11 #[.val (.ref xu), .val (.ref b1), .val (.int (6 : Int32)), .val (.int (0 : Int32)), .unset] [(.int (6 : Int32)), (.int (0 : Int32))])) _
    refine XS.icmpNo X1.here hx rfl (hb hby d7_11) rfl (tlt (by decide : (0 : Int32) < (6 : Int32))).2.1 ?_
    show Steps p.tables e below (T1.setTop (mkF m 14 #[.val (.ref xu), .val (.ref b1), .val (.int (6 : Int32)), .val (.int (0 : Int32)), .unset] [])) _
    refine XS.aloadN X1.here hx rfl (hb hby d7_14) rfl rfl ?_
    show Steps p.tables e below (T1.setTop (mkF m 15 #[.val (.ref xu), .val (.ref b1), .val (.int (6 : Int32)), .val (.int (0 : Int32)), .unset] [(.ref b1)])) _
    refine XS.iloadN X1.here hx rfl (hb hby d7_15) rfl ?_
    show Steps p.tables e below (T1.setTop (mkF m 16 #[.val (.ref xu), .val (.ref b1), .val (.int (6 : Int32)), .val (.int (0 : Int32)), .unset] [(.int (0 : Int32)), (.ref b1)])) _
    refine X1.aaload hx (j := (0 : Int32)) (v := (.ref w_START)) (Ar3.1) (State.isArrayOf_alike hZ.alike Ar3.2.1) rfl Ar3.2.2 (inb_of S3 ⟨by decide, by decide⟩) (show cl3.slots[((0 : Int32)).toNatClampNeg]? = some (.ref w_START) from H3 0 (by rw [S3]; decide)) (g := (mkF m 16 #[.val (.ref xu), .val (.ref b1), .val (.int (6 : Int32)), .val (.int (0 : Int32)), .unset] [(.int (0 : Int32)), (.ref b1)])) rfl rfl (hb hby d7_16) _ ?_
    show Steps p.tables e below (T1.setTop (mkF m 17 #[.val (.ref xu), .val (.ref b1), .val (.int (6 : Int32)), .val (.int (0 : Int32)), .unset] [(.ref w_START)])) _
    refine XS.astore X1.here hx rfl (hb hby d7_17) rfl rfl (l' := #[.val (.ref xu), .val (.ref b1), .val (.int (6 : Int32)), .val (.int (0 : Int32)), .val (.ref w_START)]) rfl ?_
    show Steps p.tables e below (T1.setTop (mkF m 19 #[.val (.ref xu), .val (.ref b1), .val (.int (6 : Int32)), .val (.int (0 : Int32)), .val (.ref w_START)] [])) _
    refine XS.aload X1.here hx rfl (hb hby d7_19) rfl rfl ?_
    show Steps p.tables e below (T1.setTop (mkF m 21 #[.val (.ref xu), .val (.ref b1), .val (.int (6 : Int32)), .val (.int (0 : Int32)), .val (.ref w_START)] [(.ref w_START)])) _
    refine st4 _ ?_
    show Steps p.tables e below (T4.setTop (mkF m 24 #[.val (.ref xu), .val (.ref b1), .val (.int (6 : Int32)), .val (.int (0 : Int32)), .val (.ref w_START)] [(.ref s0u)])) _
    refine XS.aloadN X4.here hx rfl (hb hby d7_24) rfl rfl ?_
    show Steps p.tables e below (T4.setTop (mkF m 25 #[.val (.ref xu), .val (.ref b1), .val (.int (6 : Int32)), .val (.int (0 : Int32)), .val (.ref w_START)] [(.ref xu), (.ref s0u)])) _
    refine st5.trans ?_
    show Steps p.tables e below (T5.setTop (mkF m 28 #[.val (.ref xu), .val (.ref b1), .val (.int (6 : Int32)), .val (.int (0 : Int32)), .val (.ref w_START)] [(.int (0 : Int32))])) _
    refine XS.ifYes X5.here hx rfl (pc0 := 28) (pc' := 34) rfl (hb hby d7_28) rfl ((if0 _ _).trans (teq (rfl : (0 : Int32) = (0 : Int32))).1) (by decide) (by decide) ?_
    show Steps p.tables e below (T5.setTop (mkF m 34 #[.val (.ref xu), .val (.ref b1), .val (.int (6 : Int32)), .val (.int (0 : Int32)), .val (.ref w_START)] [])) _
    refine XS.iinc X5.here hx rfl (hb hby d7_34) rfl (l' := #[.val (.ref xu), .val (.ref b1), .val (.int (6 : Int32)), .val (.int (1 : Int32)), .val (.ref w_START)]) rfl ?_
    show Steps p.tables e below (T5.setTop (mkF m 37 #[.val (.ref xu), .val (.ref b1), .val (.int (6 : Int32)), .val (.int (1 : Int32)), .val (.ref w_START)] [])) _
    refine XS.goto X5.here hx rfl (pc0 := 37) (pc' := 9) rfl (hb hby d7_37) (by decide) (by decide) ?_
    show Steps p.tables e below (T5.setTop (mkF m 9 #[.val (.ref xu), .val (.ref b1), .val (.int (6 : Int32)), .val (.int (1 : Int32)), .val (.ref w_START)] [])) _
    refine XS.iloadN X5.here hx rfl (hb hby d7_9) rfl ?_
    show Steps p.tables e below (T5.setTop (mkF m 10 #[.val (.ref xu), .val (.ref b1), .val (.int (6 : Int32)), .val (.int (1 : Int32)), .val (.ref w_START)] [(.int (1 : Int32))])) _
    refine XS.iloadN X5.here hx rfl (hb hby d7_10) rfl ?_
    show Steps p.tables e below (T5.setTop (mkF m 11 #[.val (.ref xu), .val (.ref b1), .val (.int (6 : Int32)), .val (.int (1 : Int32)), .val (.ref w_START)] [(.int (6 : Int32)), (.int (1 : Int32))])) _
    refine XS.icmpNo X5.here hx rfl (hb hby d7_11) rfl (tlt (by decide : (1 : Int32) < (6 : Int32))).2.1 ?_
    show Steps p.tables e below (T5.setTop (mkF m 14 #[.val (.ref xu), .val (.ref b1), .val (.int (6 : Int32)), .val (.int (1 : Int32)), .val (.ref w_START)] [])) _
    refine XS.aloadN X5.here hx rfl (hb hby d7_14) rfl rfl ?_
    show Steps p.tables e below (T5.setTop (mkF m 15 #[.val (.ref xu), .val (.ref b1), .val (.int (6 : Int32)), .val (.int (1 : Int32)), .val (.ref w_START)] [(.ref b1)])) _
    refine XS.iloadN X5.here hx rfl (hb hby d7_15) rfl ?_
    show Steps p.tables e below (T5.setTop (mkF m 16 #[.val (.ref xu), .val (.ref b1), .val (.int (6 : Int32)), .val (.int (1 : Int32)), .val (.ref w_START)] [(.int (1 : Int32)), (.ref b1)])) _
    refine X5.aaload hx (j := (1 : Int32)) (v := (.ref w_TASK)) (by rw [e5]; exact Ar6.1) (State.isArrayOf_alike hZ.alike Ar6.2.1) rfl Ar6.2.2 (inb_of S6 ⟨by decide, by decide⟩) (show cl6.slots[((1 : Int32)).toNatClampNeg]? = some (.ref w_TASK) from H6 1 (by rw [S6]; decide)) (g := (mkF m 16 #[.val (.ref xu), .val (.ref b1), .val (.int (6 : Int32)), .val (.int (1 : Int32)), .val (.ref w_START)] [(.int (1 : Int32)), (.ref b1)])) rfl rfl (hb hby d7_16) _ ?_
    show Steps p.tables e below (T5.setTop (mkF m 17 #[.val (.ref xu), .val (.ref b1), .val (.int (6 : Int32)), .val (.int (1 : Int32)), .val (.ref w_START)] [(.ref w_TASK)])) _
    refine XS.astore X5.here hx rfl (hb hby d7_17) rfl rfl (l' := #[.val (.ref xu), .val (.ref b1), .val (.int (6 : Int32)), .val (.int (1 : Int32)), .val (.ref w_TASK)]) rfl ?_
    show Steps p.tables e below (T5.setTop (mkF m 19 #[.val (.ref xu), .val (.ref b1), .val (.int (6 : Int32)), .val (.int (1 : Int32)), .val (.ref w_TASK)] [])) _
    refine XS.aload X5.here hx rfl (hb hby d7_19) rfl rfl ?_
    show Steps p.tables e below (T5.setTop (mkF m 21 #[.val (.ref xu), .val (.ref b1), .val (.int (6 : Int32)), .val (.int (1 : Int32)), .val (.ref w_TASK)] [(.ref w_TASK)])) _
    refine st7 _ ?_
    show Steps p.tables e below (T7.setTop (mkF m 24 #[.val (.ref xu), .val (.ref b1), .val (.int (6 : Int32)), .val (.int (1 : Int32)), .val (.ref w_TASK)] [(.ref s1u)])) _
    refine XS.aloadN X7.here hx rfl (hb hby d7_24) rfl rfl ?_
    show Steps p.tables e below (T7.setTop (mkF m 25 #[.val (.ref xu), .val (.ref b1), .val (.int (6 : Int32)), .val (.int (1 : Int32)), .val (.ref w_TASK)] [(.ref xu), (.ref s1u)])) _
    refine st8.trans ?_
    show Steps p.tables e below (T8.setTop (mkF m 28 #[.val (.ref xu), .val (.ref b1), .val (.int (6 : Int32)), .val (.int (1 : Int32)), .val (.ref w_TASK)] [(.int (0 : Int32))])) _
    refine XS.ifYes X8.here hx rfl (pc0 := 28) (pc' := 34) rfl (hb hby d7_28) rfl ((if0 _ _).trans (teq (rfl : (0 : Int32) = (0 : Int32))).1) (by decide) (by decide) ?_
    show Steps p.tables e below (T8.setTop (mkF m 34 #[.val (.ref xu), .val (.ref b1), .val (.int (6 : Int32)), .val (.int (1 : Int32)), .val (.ref w_TASK)] [])) _
    refine XS.iinc X8.here hx rfl (hb hby d7_34) rfl (l' := #[.val (.ref xu), .val (.ref b1), .val (.int (6 : Int32)), .val (.int (2 : Int32)), .val (.ref w_TASK)]) rfl ?_
    show Steps p.tables e below (T8.setTop (mkF m 37 #[.val (.ref xu), .val (.ref b1), .val (.int (6 : Int32)), .val (.int (2 : Int32)), .val (.ref w_TASK)] [])) _
    refine XS.goto X8.here hx rfl (pc0 := 37) (pc' := 9) rfl (hb hby d7_37) (by decide) (by decide) ?_
    show Steps p.tables e below (T8.setTop (mkF m 9 #[.val (.ref xu), .val (.ref b1), .val (.int (6 : Int32)), .val (.int (2 : Int32)), .val (.ref w_TASK)] [])) _
    refine XS.iloadN X8.here hx rfl (hb hby d7_9) rfl ?_
    show Steps p.tables e below (T8.setTop (mkF m 10 #[.val (.ref xu), .val (.ref b1), .val (.int (6 : Int32)), .val (.int (2 : Int32)), .val (.ref w_TASK)] [(.int (2 : Int32))])) _
    refine XS.iloadN X8.here hx rfl (hb hby d7_10) rfl ?_
    show Steps p.tables e below (T8.setTop (mkF m 11 #[.val (.ref xu), .val (.ref b1), .val (.int (6 : Int32)), .val (.int (2 : Int32)), .val (.ref w_TASK)] [(.int (6 : Int32)), (.int (2 : Int32))])) _
    refine XS.icmpNo X8.here hx rfl (hb hby d7_11) rfl (tlt (by decide : (2 : Int32) < (6 : Int32))).2.1 ?_
    show Steps p.tables e below (T8.setTop (mkF m 14 #[.val (.ref xu), .val (.ref b1), .val (.int (6 : Int32)), .val (.int (2 : Int32)), .val (.ref w_TASK)] [])) _
    refine XS.aloadN X8.here hx rfl (hb hby d7_14) rfl rfl ?_
    show Steps p.tables e below (T8.setTop (mkF m 15 #[.val (.ref xu), .val (.ref b1), .val (.int (6 : Int32)), .val (.int (2 : Int32)), .val (.ref w_TASK)] [(.ref b1)])) _
    refine XS.iloadN X8.here hx rfl (hb hby d7_15) rfl ?_
    show Steps p.tables e below (T8.setTop (mkF m 16 #[.val (.ref xu), .val (.ref b1), .val (.int (6 : Int32)), .val (.int (2 : Int32)), .val (.ref w_TASK)] [(.int (2 : Int32)), (.ref b1)])) _
    refine X8.aaload hx (j := (2 : Int32)) (v := (.ref w_WAIT)) (by rw [e8]; exact Ar9.1) (State.isArrayOf_alike hZ.alike Ar9.2.1) rfl Ar9.2.2 (inb_of S9 ⟨by decide, by decide⟩) (show cl9.slots[((2 : Int32)).toNatClampNeg]? = some (.ref w_WAIT) from H9 2 (by rw [S9]; decide)) (g := (mkF m 16 #[.val (.ref xu), .val (.ref b1), .val (.int (6 : Int32)), .val (.int (2 : Int32)), .val (.ref w_TASK)] [(.int (2 : Int32)), (.ref b1)])) rfl rfl (hb hby d7_16) _ ?_
    show Steps p.tables e below (T8.setTop (mkF m 17 #[.val (.ref xu), .val (.ref b1), .val (.int (6 : Int32)), .val (.int (2 : Int32)), .val (.ref w_TASK)] [(.ref w_WAIT)])) _
    refine XS.astore X8.here hx rfl (hb hby d7_17) rfl rfl (l' := #[.val (.ref xu), .val (.ref b1), .val (.int (6 : Int32)), .val (.int (2 : Int32)), .val (.ref w_WAIT)]) rfl ?_
    show Steps p.tables e below (T8.setTop (mkF m 19 #[.val (.ref xu), .val (.ref b1), .val (.int (6 : Int32)), .val (.int (2 : Int32)), .val (.ref w_WAIT)] [])) _
    refine XS.aload X8.here hx rfl (hb hby d7_19) rfl rfl ?_
    show Steps p.tables e below (T8.setTop (mkF m 21 #[.val (.ref xu), .val (.ref b1), .val (.int (6 : Int32)), .val (.int (2 : Int32)), .val (.ref w_WAIT)] [(.ref w_WAIT)])) _
    refine st10 _ ?_
    show Steps p.tables e below (T10.setTop (mkF m 24 #[.val (.ref xu), .val (.ref b1), .val (.int (6 : Int32)), .val (.int (2 : Int32)), .val (.ref w_WAIT)] [(.ref s2u)])) _
    refine XS.aloadN X10.here hx rfl (hb hby d7_24) rfl rfl ?_
    show Steps p.tables e below (T10.setTop (mkF m 25 #[.val (.ref xu), .val (.ref b1), .val (.int (6 : Int32)), .val (.int (2 : Int32)), .val (.ref w_WAIT)] [(.ref xu), (.ref s2u)])) _
    refine st11.trans ?_
    show Steps p.tables e below (T11.setTop (mkF m 28 #[.val (.ref xu), .val (.ref b1), .val (.int (6 : Int32)), .val (.int (2 : Int32)), .val (.ref w_WAIT)] [(.int (1 : Int32))])) _
    refine XS.ifNo X11.here hx rfl (hb hby d7_28) rfl ((if0 _ _).trans (feq (by decide : ¬ ((1 : Int32) = (0 : Int32)))).1) ?_
    show Steps p.tables e below (T11.setTop (mkF m 31 #[.val (.ref xu), .val (.ref b1), .val (.int (6 : Int32)), .val (.int (2 : Int32)), .val (.ref w_WAIT)] [])) _
    refine XS.aload X11.here hx rfl (hb hby d7_31) rfl rfl ?_
    show Steps p.tables e below (T11.setTop (mkF m 33 #[.val (.ref xu), .val (.ref b1), .val (.int (6 : Int32)), .val (.int (2 : Int32)), .val (.ref w_WAIT)] [(.ref w_WAIT)])) _
    jvm_step X11.here [X11.here.top, hx, (hb hby d7_33), X11.method', Bd.returns, Value.isRef, FieldType.isReference]
    first | (intro acts; rw [hr _ acts rfl rfl rfl]) | rw [hr _ _ rfl rfl rfl]
    exact Steps.refl _
  · show Q_rmF2 Z xu xt xk wV kV w_START w_TASK w_WAIT w_FORK w_JOIN w_SUCCESS s0u s0t s0k s1u s1t s1k s2u s2t s2k s3u s3t s3k s4u s4t s4k s5u s5t s5k zc h0 n0 _ T11.heap _
    rw [e11]
    exact ⟨rfl, N11, own_keep_ext K1⟩
theorem pn_rmF3 : plainName "com/example/nevermind/nevermind/graphs/NodeType" = true := by first | (simp [plainName, overriddenIn]; done) | decide +kernel
theorem pd_rmF3_0 : parseMethodDescriptor "()[Lcom/example/nevermind/nevermind/graphs/NodeType;" = some ⟨[], some (.array (.object "com/example/nevermind/nevermind/graphs/NodeType"))⟩ := by decide +kernel
theorem pd_rmF3_1 : parseMethodDescriptor "(Ljava/lang/Object;)Z" = some ⟨[(.object "java/lang/Object")], some .boolean⟩ := by decide +kernel
theorem ef_rmF3 (m : MethodId) (xu : Addr) : entryFrame m #[(.ref xu)] 5 = mkF m 0 #[.val (.ref xu), .unset, .unset, .unset, .unset] [] := by first | (simp [entryFrame, mkF, argsToLocals, Value.category]; done) | rfl
def Q_rmF3 (Z : State) (xu : Addr) (xt : Addr) (xk : ClassId) (wV : Addr) (kV : ClassId) (w_START : Addr) (w_TASK : Addr) (w_WAIT : Addr) (w_FORK : Addr) (w_JOIN : Addr) (w_SUCCESS : Addr) (s0u : Addr) (s0t : Addr) (s0k : ClassId) (s1u : Addr) (s1t : Addr) (s1k : ClassId) (s2u : Addr) (s2t : Addr) (s2k : ClassId) (s3u : Addr) (s3t : Addr) (s3k : ClassId) (s4u : Addr) (s4t : Addr) (s4k : ClassId) (s5u : Addr) (s5t : Addr) (s5k : ClassId) (zc : Int32) (h0 : Heap) (n0 : Nat) (v : Option Value) (h : Heap) (L : List Loc) : Prop := v = some (.ref w_FORK) ∧ Fr n0 L ∧ Ext h0 h
set_option maxRecDepth 65536 in
set_option maxHeartbeats 40000000 in
theorem rmF3 (l : Launch) (Z : State) (a0 : Array Value) (hw : ∀ d ∈ tables_1, d.before a0 Z = true) (ws : List Jvm.Cond) (xu : Addr) (xt : Addr) (xk : ClassId) (wV : Addr) (kV : ClassId) (w_START : Addr) (w_TASK : Addr) (w_WAIT : Addr) (w_FORK : Addr) (w_JOIN : Addr) (w_SUCCESS : Addr) (s0u : Addr) (s0t : Addr) (s0k : ClassId) (s1u : Addr) (s1t : Addr) (s1k : ClassId) (s2u : Addr) (s2t : Addr) (s2k : ClassId) (s3u : Addr) (s3t : Addr) (s3k : ClassId) (s4u : Addr) (s4t : Addr) (s4k : ClassId) (s5u : Addr) (s5t : Addr) (s5k : ClassId) (zc : Int32) (h0 : Heap) (n0 : Nat) (Z0 : n0 ≤ h0.size) (xE : Exa Z h0 xu "java/lang/String") (xV : Fld Z h0 xu "java/lang/String" "value" "[B" (.ref xt)) (xC : Fld Z h0 xu "java/lang/String" "coder" "B" (.int (0 : Int32))) (xK : Arv Z h0 xt xk .byte (4 : Int32) (cs3.map Value.int) (.int 0)) (S_V : Sta Z h0 "com/example/nevermind/nevermind/graphs/NodeType" "$VALUES" "[Lcom/example/nevermind/nevermind/graphs/NodeType;" (.ref wV)) (V_V : Arv Z h0 wV kV (.object "com/example/nevermind/nevermind/graphs/NodeType") (6 : Int32) [.ref w_START, .ref w_TASK, .ref w_WAIT, .ref w_FORK, .ref w_JOIN, .ref w_SUCCESS] .null) (E_V : Exa Z h0 wV "[Lcom/example/nevermind/nevermind/graphs/NodeType;") (s0F : Fld Z h0 w_START "com/example/nevermind/nevermind/graphs/NodeType" "wireName" "Ljava/lang/String;" (.ref s0u)) (s0E : Exa Z h0 s0u "java/lang/String") (s0V : Fld Z h0 s0u "java/lang/String" "value" "[B" (.ref s0t)) (s0C : Fld Z h0 s0u "java/lang/String" "coder" "B" (.int (0 : Int32))) (s0K : Arv Z h0 s0t s0k .byte (5 : Int32) (cs0.map Value.int) (.int 0)) (s1F : Fld Z h0 w_TASK "com/example/nevermind/nevermind/graphs/NodeType" "wireName" "Ljava/lang/String;" (.ref s1u)) (s1E : Exa Z h0 s1u "java/lang/String") (s1V : Fld Z h0 s1u "java/lang/String" "value" "[B" (.ref s1t)) (s1C : Fld Z h0 s1u "java/lang/String" "coder" "B" (.int (0 : Int32))) (s1K : Arv Z h0 s1t s1k .byte (4 : Int32) (cs1.map Value.int) (.int 0)) (s2F : Fld Z h0 w_WAIT "com/example/nevermind/nevermind/graphs/NodeType" "wireName" "Ljava/lang/String;" (.ref s2u)) (s2E : Exa Z h0 s2u "java/lang/String") (s2V : Fld Z h0 s2u "java/lang/String" "value" "[B" (.ref s2t)) (s2C : Fld Z h0 s2u "java/lang/String" "coder" "B" (.int (0 : Int32))) (s2K : Arv Z h0 s2t s2k .byte (4 : Int32) (cs2.map Value.int) (.int 0)) (s3F : Fld Z h0 w_FORK "com/example/nevermind/nevermind/graphs/NodeType" "wireName" "Ljava/lang/String;" (.ref s3u)) (s3E : Exa Z h0 s3u "java/lang/String") (s3V : Fld Z h0 s3u "java/lang/String" "value" "[B" (.ref s3t)) (s3C : Fld Z h0 s3u "java/lang/String" "coder" "B" (.int (0 : Int32))) (s3K : Arv Z h0 s3t s3k .byte (4 : Int32) (cs3.map Value.int) (.int 0)) (s4F : Fld Z h0 w_JOIN "com/example/nevermind/nevermind/graphs/NodeType" "wireName" "Ljava/lang/String;" (.ref s4u)) (s4E : Exa Z h0 s4u "java/lang/String") (s4V : Fld Z h0 s4u "java/lang/String" "value" "[B" (.ref s4t)) (s4C : Fld Z h0 s4u "java/lang/String" "coder" "B" (.int (0 : Int32))) (s4K : Arv Z h0 s4t s4k .byte (4 : Int32) (cs4.map Value.int) (.int 0)) (s5F : Fld Z h0 w_SUCCESS "com/example/nevermind/nevermind/graphs/NodeType" "wireName" "Ljava/lang/String;" (.ref s5u)) (s5E : Exa Z h0 s5u "java/lang/String") (s5V : Fld Z h0 s5u "java/lang/String" "value" "[B" (.ref s5t)) (s5C : Fld Z h0 s5u "java/lang/String" "coder" "B" (.int (0 : Int32))) (s5K : Arv Z h0 s5t s5k .byte (7 : Int32) (cs5.map Value.int) (.int 0)) (S_C : Sta Z h0 "java/lang/String" "COMPACT_STRINGS" "Z" (.int zc)) (hzc : ¬ zc = 0) :
    MetFree l (⟨"com/example/nevermind/nevermind/graphs/NodeType", "fromWireName", "(Ljava/lang/String;)Lcom/example/nevermind/nevermind/graphs/NodeType;"⟩ : MethodName) (head1 (Jvm.Cond.code (⟨"com/example/nevermind/nevermind/graphs/NodeType", "fromWireName", "(Ljava/lang/String;)Lcom/example/nevermind/nevermind/graphs/NodeType;"⟩ : MethodName) prog_9_method_5_code 5 (some (.object "com/example/nevermind/nevermind/graphs/NodeType")) :: ws) ({ frames := 2, cells := 1, slots := 6, locals := 28 } : Room)) (fun a U => a = #[(.ref xu)] ∧ Z.Warmed39 U.vm ∧ U.heap = h0) (fun _ _ _ _ _ => True) (fun _ U o U' => ∃ v L, o = .returned v ∧ Q_rmF3 Z xu xt xk wV kV w_START w_TASK w_WAIT w_FORK w_JOIN w_SUCCESS s0u s0t s0k s1u s1t s1k s2u s2t s2k s3u s3t s3k s4u s4t s4k s5u s5t s5k zc h0 n0 v U'.heap L ∧ FrameEnd U o U' L ({ frames := 2, cells := 1, slots := 6, locals := 28 } : Room).cells ({ frames := 2, cells := 1, slots := 6, locals := 28 } : Room).slots) := by
  refine MetFree.of_bodySF (plainFor_of_name pn_rmF3) hisR ?_
  intro p e s m args below meth c s₁ Bd hml0 hP hK
  obtain ⟨rfl, hZ, hh⟩ := hP
  have hx := Bd.exec
  have hby := Bd.bytes
  have hml : c.maxLocals = 5 := hml0
  have hown : s.vm.findClass "com/example/nevermind/nevermind/graphs/NodeType" = some m.cls := findClass_of_methodNamed Bd.named
  have hnm := (name_of_methodNamed Bd.named Bd.method).1
  have X0 : Stand p l e ({ frames := 2, cells := 1, slots := 6, locals := 28 } : Room) s m #[(.ref xu)] below meth c s₁ [] 0 0 := Stand.of_body Bd
  have e0 : s₁.heap = h0 := by rw [← hh, Bd.state]; rfl
  have N0 := Fr.nil n0
  have pre0 : ∀ t, Steps p.tables e below (s₁.setTop (mkF m 0 #[.val (.ref xu), .unset, .unset, .unset, .unset] [])) t → Steps p.tables e below (s₁.setTop (entryFrame m #[(.ref xu)] 5)) t := fun t k => castTop (ef_rmF3 m xu) k
  have hwsE : ∀ d ∈ StrChars.Road.wordsEq, d.before a0 Z = true := fun d hd => hw d ((by decide +kernel : ∀ d ∈ StrChars.Road.wordsEq, d ∈ tables_1) d hd)
  obtain ⟨_, _, ⟨T1, L1, k1, n1⟩, -, X1, ⟨Lc1, hQ1, l1, y1, z1⟩, st1⟩ := Jvm.LawKit.callS X0 hx (y := (⟨"com/example/nevermind/nevermind/graphs/NodeType", "values", "()[Lcom/example/nevermind/nevermind/graphs/NodeType;"⟩ : MethodName)) hown (mvT hZ (hw _ (List.mem_of_getElem? (i := 37) rfl))) (mvT hZ (hw _ (List.mem_of_getElem? (i := 38) rfl))) (mvT hZ (hw _ (List.mem_of_getElem? (i := 3) rfl))) (mvT hZ (hw _ (List.mem_of_getElem? (i := 39) rfl))) (by decide) (backOf (W := 0) (rmV l Z a0 hw [] wV kV w_START w_TASK w_WAIT w_FORK w_JOIN w_SUCCESS h0 n0 Z0 S_V V_V E_V) hZ (hw _ (List.mem_of_getElem? (i := 39) rfl)) (hw _ (List.mem_of_getElem? (i := 3) rfl)) (by decide) (by decide)) (g := (mkF m 0 #[.val (.ref xu), .unset, .unset, .unset, .unset] [])) rfl (by rw [hml]; rfl) (argsL := []) (rest := []) (lenOf pd_rmF3_0 rfl) rfl (by show 2 * 0 + _ ≤ _; exact Nat.le_of_eq rfl) (hb hby d7_0) (fun _ _ => ⟨rfl, e0, (by decide : 0 + 1 ≤ _), (by decide : 0 + 6 ≤ _)⟩)
  dsimp only [Pt.U, Pt.locs, Pt.cells, Pt.slots] at X1 l1 y1 z1 st1 hQ1
  subst l1 y1 z1
  obtain ⟨b1, rfl, N1q, E1q, V1q⟩ := hQ1
  have N1 := Fr.app N0 N1q
  have K1 : Keep h0 T1.heap [] := ((Keep.refl h0 [])).ext E1q
  obtain ⟨cl2, Ar2, q2, S2, N2_, H2, G2⟩ := id V1q
  obtain ⟨cl3, Ar3, q3, S3, N3_, H3, G3⟩ := id V1q
  obtain ⟨T4, X4, e4, st4⟩ := getF X1 hx hZ hown (host := "") (Or.inl (hw _ (List.mem_of_getElem? (i := 57) rfl))) Via.refl rfl (Fld.ext E1q s0F) (g := (mkF m 21 #[.val (.ref xu), .val (.ref b1), .val (.int (6 : Int32)), .val (.int (0 : Int32)), .val (.ref w_START)] [(.ref w_START)])) rfl rfl (hb hby d7_21)
  obtain ⟨cq5, kq5, q5a, q5b, q5c⟩ := isOf hZ e4 (Exa.ext E1q s0E)
  obtain ⟨_, _, ⟨T5, L5, k5, n5⟩, -, X5, ⟨Lc5, hQ5, l5, y5, z5⟩, st5⟩ := X4.virtualBack hx (y := (⟨"java/lang/String", "equals", "(Ljava/lang/Object;)Z"⟩ : MethodName)) (z := (⟨"java/lang/String", "equals", "(Ljava/lang/Object;)Z"⟩ : MethodName)) hown (mvT hZ (hw _ (List.mem_of_getElem? (i := 59) rfl))) (mvT hZ (hw _ (List.mem_of_getElem? (i := 60) rfl))) (notFace_of_selects (args := #[]) (mvT hZ (hw _ (List.mem_of_getElem? (i := 62) rfl)))) (mvT hZ (hw _ (List.mem_of_getElem? (i := 62) rfl))) (mvT hZ (hw _ (List.mem_of_getElem? (i := 61) rfl))) (by decide) (StrChars.Road.eqW (W := 0) hZ hwsE (kI := 4) (hw _ (List.mem_of_getElem? (i := 6) rfl)) (Exa.ext E1q s0E) (Fld.ext E1q s0V) (Fld.ext E1q s0C) (s0K.ext E1q) own_cod0 own_b0 (by decide) (Exa.ext E1q xE) (Fld.ext E1q xV) (Fld.ext E1q xC) (xK.ext E1q) own_cod3 own_b3 (by decide) (Sta.ext E1q S_C) hzc (by decide) (by decide)) q5a q5c (g := (mkF m 25 #[.val (.ref xu), .val (.ref b1), .val (.int (6 : Int32)), .val (.int (0 : Int32)), .val (.ref w_START)] [(.ref xu), (.ref s0u)])) rfl (by rw [hml]; rfl) (Steps.refl _) (argsL := [(.ref xu)]) (rest := []) (lenOf pd_rmF3_1 rfl) rfl (by show 2 * 0 + _ ≤ _; exact Nat.le_of_eq rfl) (hb hby d7_25) (fun _ _ => ⟨rfl, e4, (by decide : 1 + 0 ≤ _), (by decide : 6 + 0 ≤ _)⟩)
  dsimp only [Pt.U, Pt.locs, Pt.cells, Pt.slots] at X5 l5 y5 z5 st5 hQ5
  subst l5 y5 z5
  rcases hQ5 with ⟨⟨hv5, hd5⟩ | ⟨hv5, hd5⟩, hl5, e5⟩
  · exact absurd hd5 (by decide)
  subst hv5 hl5
  have N5 := Fr.app N1 (Fr.nil n0)
  obtain ⟨cl6, Ar6, q6, S6, N6_, H6, G6⟩ := id V1q
  obtain ⟨T7, X7, e7, st7⟩ := getF X5 hx hZ hown (host := "") (Or.inl (hw _ (List.mem_of_getElem? (i := 57) rfl))) Via.refl e5 (Fld.ext E1q s1F) (g := (mkF m 21 #[.val (.ref xu), .val (.ref b1), .val (.int (6 : Int32)), .val (.int (1 : Int32)), .val (.ref w_TASK)] [(.ref w_TASK)])) rfl rfl (hb hby d7_21)
  obtain ⟨cq8, kq8, q8a, q8b, q8c⟩ := isOf hZ e7 (Exa.ext E1q s1E)
  obtain ⟨_, _, ⟨T8, L8, k8, n8⟩, -, X8, ⟨Lc8, hQ8, l8, y8, z8⟩, st8⟩ := X7.virtualBack hx (y := (⟨"java/lang/String", "equals", "(Ljava/lang/Object;)Z"⟩ : MethodName)) (z := (⟨"java/lang/String", "equals", "(Ljava/lang/Object;)Z"⟩ : MethodName)) hown (mvT hZ (hw _ (List.mem_of_getElem? (i := 59) rfl))) (mvT hZ (hw _ (List.mem_of_getElem? (i := 60) rfl))) (notFace_of_selects (args := #[]) (mvT hZ (hw _ (List.mem_of_getElem? (i := 62) rfl)))) (mvT hZ (hw _ (List.mem_of_getElem? (i := 62) rfl))) (mvT hZ (hw _ (List.mem_of_getElem? (i := 61) rfl))) (by decide) (StrChars.Road.eqW (W := 0) hZ hwsE (kI := 4) (hw _ (List.mem_of_getElem? (i := 6) rfl)) (Exa.ext E1q s1E) (Fld.ext E1q s1V) (Fld.ext E1q s1C) (s1K.ext E1q) own_cod1 own_b1 (by decide) (Exa.ext E1q xE) (Fld.ext E1q xV) (Fld.ext E1q xC) (xK.ext E1q) own_cod3 own_b3 (by decide) (Sta.ext E1q S_C) hzc (by decide) (by decide)) q8a q8c (g := (mkF m 25 #[.val (.ref xu), .val (.ref b1), .val (.int (6 : Int32)), .val (.int (1 : Int32)), .val (.ref w_TASK)] [(.ref xu), (.ref s1u)])) rfl (by rw [hml]; rfl) (Steps.refl _) (argsL := [(.ref xu)]) (rest := []) (lenOf pd_rmF3_1 rfl) rfl (by show 2 * 0 + _ ≤ _; exact Nat.le_of_eq rfl) (hb hby d7_25) (fun _ _ => ⟨rfl, e7, (by decide : 1 + 0 ≤ _), (by decide : 6 + 0 ≤ _)⟩)
  dsimp only [Pt.U, Pt.locs, Pt.cells, Pt.slots] at X8 l8 y8 z8 st8 hQ8
  subst l8 y8 z8
  rcases hQ8 with ⟨⟨hv8, hd8⟩ | ⟨hv8, hd8⟩, hl8, e8⟩
  · exact absurd hd8 (by decide)
  subst hv8 hl8
  have N8 := Fr.app N5 (Fr.nil n0)
  obtain ⟨cl9, Ar9, q9, S9, N9_, H9, G9⟩ := id V1q
  obtain ⟨T10, X10, e10, st10⟩ := getF X8 hx hZ hown (host := "") (Or.inl (hw _ (List.mem_of_getElem? (i := 57) rfl))) Via.refl e8 (Fld.ext E1q s2F) (g := (mkF m 21 #[.val (.ref xu), .val (.ref b1), .val (.int (6 : Int32)), .val (.int (2 : Int32)), .val (.ref w_WAIT)] [(.ref w_WAIT)])) rfl rfl (hb hby d7_21)
  obtain ⟨cq11, kq11, q11a, q11b, q11c⟩ := isOf hZ e10 (Exa.ext E1q s2E)
  obtain ⟨_, _, ⟨T11, L11, k11, n11⟩, -, X11, ⟨Lc11, hQ11, l11, y11, z11⟩, st11⟩ := X10.virtualBack hx (y := (⟨"java/lang/String", "equals", "(Ljava/lang/Object;)Z"⟩ : MethodName)) (z := (⟨"java/lang/String", "equals", "(Ljava/lang/Object;)Z"⟩ : MethodName)) hown (mvT hZ (hw _ (List.mem_of_getElem? (i := 59) rfl))) (mvT hZ (hw _ (List.mem_of_getElem? (i := 60) rfl))) (notFace_of_selects (args := #[]) (mvT hZ (hw _ (List.mem_of_getElem? (i := 62) rfl)))) (mvT hZ (hw _ (List.mem_of_getElem? (i := 62) rfl))) (mvT hZ (hw _ (List.mem_of_getElem? (i := 61) rfl))) (by decide) (StrChars.Road.eqW (W := 0) hZ hwsE (kI := 4) (hw _ (List.mem_of_getElem? (i := 6) rfl)) (Exa.ext E1q s2E) (Fld.ext E1q s2V) (Fld.ext E1q s2C) (s2K.ext E1q) own_cod2 own_b2 (by decide) (Exa.ext E1q xE) (Fld.ext E1q xV) (Fld.ext E1q xC) (xK.ext E1q) own_cod3 own_b3 (by decide) (Sta.ext E1q S_C) hzc (by decide) (by decide)) q11a q11c (g := (mkF m 25 #[.val (.ref xu), .val (.ref b1), .val (.int (6 : Int32)), .val (.int (2 : Int32)), .val (.ref w_WAIT)] [(.ref xu), (.ref s2u)])) rfl (by rw [hml]; rfl) (Steps.refl _) (argsL := [(.ref xu)]) (rest := []) (lenOf pd_rmF3_1 rfl) rfl (by show 2 * 0 + _ ≤ _; exact Nat.le_of_eq rfl) (hb hby d7_25) (fun _ _ => ⟨rfl, e10, (by decide : 1 + 0 ≤ _), (by decide : 6 + 0 ≤ _)⟩)
  dsimp only [Pt.U, Pt.locs, Pt.cells, Pt.slots] at X11 l11 y11 z11 st11 hQ11
  subst l11 y11 z11
  rcases hQ11 with ⟨⟨hv11, hd11⟩ | ⟨hv11, hd11⟩, hl11, e11⟩
  · exact absurd hd11 (by decide)
  subst hv11 hl11
  have N11 := Fr.app N8 (Fr.nil n0)
  obtain ⟨cl12, Ar12, q12, S12, N12_, H12, G12⟩ := id V1q
  obtain ⟨T13, X13, e13, st13⟩ := getF X11 hx hZ hown (host := "") (Or.inl (hw _ (List.mem_of_getElem? (i := 57) rfl))) Via.refl e11 (Fld.ext E1q s3F) (g := (mkF m 21 #[.val (.ref xu), .val (.ref b1), .val (.int (6 : Int32)), .val (.int (3 : Int32)), .val (.ref w_FORK)] [(.ref w_FORK)])) rfl rfl (hb hby d7_21)
  obtain ⟨cq14, kq14, q14a, q14b, q14c⟩ := isOf hZ e13 (Exa.ext E1q s3E)
  obtain ⟨_, _, ⟨T14, L14, k14, n14⟩, -, X14, ⟨Lc14, hQ14, l14, y14, z14⟩, st14⟩ := X13.virtualBack hx (y := (⟨"java/lang/String", "equals", "(Ljava/lang/Object;)Z"⟩ : MethodName)) (z := (⟨"java/lang/String", "equals", "(Ljava/lang/Object;)Z"⟩ : MethodName)) hown (mvT hZ (hw _ (List.mem_of_getElem? (i := 59) rfl))) (mvT hZ (hw _ (List.mem_of_getElem? (i := 60) rfl))) (notFace_of_selects (args := #[]) (mvT hZ (hw _ (List.mem_of_getElem? (i := 62) rfl)))) (mvT hZ (hw _ (List.mem_of_getElem? (i := 62) rfl))) (mvT hZ (hw _ (List.mem_of_getElem? (i := 61) rfl))) (by decide) (StrChars.Road.eqW (W := 0) hZ hwsE (kI := 4) (hw _ (List.mem_of_getElem? (i := 6) rfl)) (Exa.ext E1q s3E) (Fld.ext E1q s3V) (Fld.ext E1q s3C) (s3K.ext E1q) own_cod3 own_b3 (by decide) (Exa.ext E1q xE) (Fld.ext E1q xV) (Fld.ext E1q xC) (xK.ext E1q) own_cod3 own_b3 (by decide) (Sta.ext E1q S_C) hzc (by decide) (by decide)) q14a q14c (g := (mkF m 25 #[.val (.ref xu), .val (.ref b1), .val (.int (6 : Int32)), .val (.int (3 : Int32)), .val (.ref w_FORK)] [(.ref xu), (.ref s3u)])) rfl (by rw [hml]; rfl) (Steps.refl _) (argsL := [(.ref xu)]) (rest := []) (lenOf pd_rmF3_1 rfl) rfl (by show 2 * 0 + _ ≤ _; exact Nat.le_of_eq rfl) (hb hby d7_25) (fun _ _ => ⟨rfl, e13, (by decide : 1 + 0 ≤ _), (by decide : 6 + 0 ≤ _)⟩)
  dsimp only [Pt.U, Pt.locs, Pt.cells, Pt.slots] at X14 l14 y14 z14 st14 hQ14
  subst l14 y14 z14
  rcases hQ14 with ⟨⟨hv14, hd14⟩ | ⟨hv14, hd14⟩, hl14, e14⟩
  rotate_left
  · exact absurd rfl hd14
  subst hv14 hl14
  have N14 := Fr.app N11 (Fr.nil n0)
  obtain ⟨fs, hr, hrun, hended, hW, hsame⟩ := X14.leave (v := some (.ref w_FORK)) (fun h => by rw [Bd.returns] at h; cases h)
  refine ⟨_, _, pre0 _ ?_, hrun, hended, _, _, rfl, ?_, ⟨_, rfl⟩, hW, hsame.mono (by decide) (by decide)⟩
  · show Steps p.tables e below (s₁.setTop (mkF m 0 #[.val (.ref xu), .unset, .unset, .unset, .unset] [])) _
    refine st1 _ ?_
    show Steps p.tables e below (T1.setTop (mkF m 3 #[.val (.ref xu), .unset, .unset, .unset, .unset] [(.ref b1)])) _
    refine XS.astoreN X1.here hx rfl (hb hby d7_3) rfl rfl (l' := #[.val (.ref xu), .val (.ref b1), .unset, .unset, .unset]) rfl ?_
    show Steps p.tables e below (T1.setTop (mkF m 4 #[.val (.ref xu), .val (.ref b1), .unset, .unset, .unset] [])) _
    refine XS.aloadN X1.here hx rfl (hb hby d7_4) rfl rfl ?_
    show Steps p.tables e below (T1.setTop (mkF m 5 #[.val (.ref xu), .val (.ref b1), .unset, .unset, .unset] [(.ref b1)])) _
    refine X1.arraylength hx (Ar2.1) (State.isArrayOf_alike hZ.alike Ar2.2.1) (g := (mkF m 5 #[.val (.ref xu), .val (.ref b1), .unset, .unset, .unset] [(.ref b1)])) rfl rfl (hb hby d7_5) _ ?_
    rw [len_of S2 N2_]
    show Steps p.tables e below (T1.setTop (mkF m 6 #[.val (.ref xu), .val (.ref b1), .unset, .unset, .unset] [(.int (6 : Int32))])) _
    refine XS.istoreN X1.here hx rfl (hb hby d7_6) rfl (l' := #[.val (.ref xu), .val (.ref b1), .val (.int (6 : Int32)), .unset, .unset]) rfl ?_
    show Steps p.tables e below (T1.setTop (mkF m 7 #[.val (.ref xu), .val (.ref b1), .val (.int (6 : Int32)), .unset, .unset] [])) _
    refine XS.iconst X1.here hx rfl (hb hby d7_7) ?_
    show Steps p.tables e below (T1.setTop (mkF m 8 #[.val (.ref xu), .val (.ref b1), .val (.int (6 : Int32)), .unset, .unset] [(.int (0 : Int32))])) _
    refine XS.istoreN X1.here hx rfl (hb hby d7_8) rfl (l' := #[.val (.ref xu), .val (.ref b1), .val (.int (6 : Int32)), .val (.int (0 : Int32)), .unset]) rfl ?_
    show Steps p.tables e below (T1.setTop (mkF m 9 #[.val (.ref xu), .val (.ref b1), .val (.int (6 : Int32)), .val (.int (0 : Int32)), .unset] [])) _
    refine XS.iloadN X1.here hx rfl (hb hby d7_9) rfl ?_
    show Steps p.tables e below (T1.setTop (mkF m 10 #[.val (.ref xu), .val (.ref b1), .val (.int (6 : Int32)), .val (.int (0 : Int32)), .unset] [(.int (0 : Int32))])) _
    refine XS.iloadN X1.here hx rfl (hb hby d7_10) rfl ?_
    show Steps p.tables e below (T1.setTop (mkF m 11 #[.val (.ref xu), .val (.ref b1), .val (.int (6 : Int32)), .val (.int (0 : Int32)), .unset] [(.int (6 : Int32)), (.int (0 : Int32))])) _
    refine XS.icmpNo X1.here hx rfl (hb hby d7_11) rfl (tlt (by decide : (0 : Int32) < (6 : Int32))).2.1 ?_
    show Steps p.tables e below (T1.setTop (mkF m 14 #[.val (.ref xu), .val (.ref b1), .val (.int (6 : Int32)), .val (.int (0 : Int32)), .unset] [])) _
    refine XS.aloadN X1.here hx rfl (hb hby d7_14) rfl rfl ?_
    show Steps p.tables e below (T1.setTop (mkF m 15 #[.val (.ref xu), .val (.ref b1), .val (.int (6 : Int32)), .val (.int (0 : Int32)), .unset] [(.ref b1)])) _
    refine XS.iloadN X1.here hx rfl (hb hby d7_15) rfl ?_
    show Steps p.tables e below (T1.setTop (mkF m 16 #[.val (.ref xu), .val (.ref b1), .val (.int (6 : Int32)), .val (.int (0 : Int32)), .unset] [(.int (0 : Int32)), (.ref b1)])) _
    refine X1.aaload hx (j := (0 : Int32)) (v := (.ref w_START)) (Ar3.1) (State.isArrayOf_alike hZ.alike Ar3.2.1) rfl Ar3.2.2 (inb_of S3 ⟨by decide, by decide⟩) (show cl3.slots[((0 : Int32)).toNatClampNeg]? = some (.ref w_START) from H3 0 (by rw [S3]; decide)) (g := (mkF m 16 #[.val (.ref xu), .val (.ref b1), .val (.int (6 : Int32)), .val (.int (0 : Int32)), .unset] [(.int (0 : Int32)), (.ref b1)])) rfl rfl (hb hby d7_16) _ ?_
    show Steps p.tables e below (T1.setTop (mkF m 17 #[.val (.ref xu), .val (.ref b1), .val (.int (6 : Int32)), .val (.int (0 : Int32)), .unset] [(.ref w_START)])) _
    refine XS.astore X1.here hx rfl (hb hby d7_17) rfl rfl (l' := #[.val (.ref xu), .val (.ref b1), .val (.int (6 : Int32)), .val (.int (0 : Int32)), .val (.ref w_START)]) rfl ?_
    show Steps p.tables e below (T1.setTop (mkF m 19 #[.val (.ref xu), .val (.ref b1), .val (.int (6 : Int32)), .val (.int (0 : Int32)), .val (.ref w_START)] [])) _
    refine XS.aload X1.here hx rfl (hb hby d7_19) rfl rfl ?_
    show Steps p.tables e below (T1.setTop (mkF m 21 #[.val (.ref xu), .val (.ref b1), .val (.int (6 : Int32)), .val (.int (0 : Int32)), .val (.ref w_START)] [(.ref w_START)])) _
    refine st4 _ ?_
    show Steps p.tables e below (T4.setTop (mkF m 24 #[.val (.ref xu), .val (.ref b1), .val (.int (6 : Int32)), .val (.int (0 : Int32)), .val (.ref w_START)] [(.ref s0u)])) _
    refine XS.aloadN X4.here hx rfl (hb hby d7_24) rfl rfl ?_
    show Steps p.tables e below (T4.setTop (mkF m 25 #[.val (.ref xu), .val (.ref b1), .val (.int (6 : Int32)), .val (.int (0 : Int32)), .val (.ref w_START)] [(.ref xu), (.ref s0u)])) _
    refine st5.trans ?_
    show Steps p.tables e below (T5.setTop (mkF m 28 #[.val (.ref xu), .val (.ref b1), .val (.int (6 : Int32)), .val (.int (0 : Int32)), .val (.ref w_START)] [(.int (0 : Int32))])) _
    refine XS.ifYes X5.here hx rfl (pc0 := 28) (pc' := 34) rfl (hb hby d7_28) rfl ((if0 _ _).trans (teq (rfl : (0 : Int32) = (0 : Int32))).1) (by decide) (by decide) ?_
    show Steps p.tables e below (T5.setTop (mkF m 34 #[.val (.ref xu), .val (.ref b1), .val (.int (6 : Int32)), .val (.int (0 : Int32)), .val (.ref w_START)] [])) _
    refine XS.iinc X5.here hx rfl (hb hby d7_34) rfl (l' := #[.val (.ref xu), .val (.ref b1), .val (.int (6 : Int32)), .val (.int (1 : Int32)), .val (.ref w_START)]) rfl ?_
    show Steps p.tables e below (T5.setTop (mkF m 37 #[.val (.ref xu), .val (.ref b1), .val (.int (6 : Int32)), .val (.int (1 : Int32)), .val (.ref w_START)] [])) _
    refine XS.goto X5.here hx rfl (pc0 := 37) (pc' := 9) rfl (hb hby d7_37) (by decide) (by decide) ?_
    show Steps p.tables e below (T5.setTop (mkF m 9 #[.val (.ref xu), .val (.ref b1), .val (.int (6 : Int32)), .val (.int (1 : Int32)), .val (.ref w_START)] [])) _
    refine XS.iloadN X5.here hx rfl (hb hby d7_9) rfl ?_
    show Steps p.tables e below (T5.setTop (mkF m 10 #[.val (.ref xu), .val (.ref b1), .val (.int (6 : Int32)), .val (.int (1 : Int32)), .val (.ref w_START)] [(.int (1 : Int32))])) _
    refine XS.iloadN X5.here hx rfl (hb hby d7_10) rfl ?_
    show Steps p.tables e below (T5.setTop (mkF m 11 #[.val (.ref xu), .val (.ref b1), .val (.int (6 : Int32)), .val (.int (1 : Int32)), .val (.ref w_START)] [(.int (6 : Int32)), (.int (1 : Int32))])) _
    refine XS.icmpNo X5.here hx rfl (hb hby d7_11) rfl (tlt (by decide : (1 : Int32) < (6 : Int32))).2.1 ?_
    show Steps p.tables e below (T5.setTop (mkF m 14 #[.val (.ref xu), .val (.ref b1), .val (.int (6 : Int32)), .val (.int (1 : Int32)), .val (.ref w_START)] [])) _
    refine XS.aloadN X5.here hx rfl (hb hby d7_14) rfl rfl ?_
    show Steps p.tables e below (T5.setTop (mkF m 15 #[.val (.ref xu), .val (.ref b1), .val (.int (6 : Int32)), .val (.int (1 : Int32)), .val (.ref w_START)] [(.ref b1)])) _
    refine XS.iloadN X5.here hx rfl (hb hby d7_15) rfl ?_
    show Steps p.tables e below (T5.setTop (mkF m 16 #[.val (.ref xu), .val (.ref b1), .val (.int (6 : Int32)), .val (.int (1 : Int32)), .val (.ref w_START)] [(.int (1 : Int32)), (.ref b1)])) _
    refine X5.aaload hx (j := (1 : Int32)) (v := (.ref w_TASK)) (by rw [e5]; exact Ar6.1) (State.isArrayOf_alike hZ.alike Ar6.2.1) rfl Ar6.2.2 (inb_of S6 ⟨by decide, by decide⟩) (show cl6.slots[((1 : Int32)).toNatClampNeg]? = some (.ref w_TASK) from H6 1 (by rw [S6]; decide)) (g := (mkF m 16 #[.val (.ref xu), .val (.ref b1), .val (.int (6 : Int32)), .val (.int (1 : Int32)), .val (.ref w_START)] [(.int (1 : Int32)), (.ref b1)])) rfl rfl (hb hby d7_16) _ ?_
    show Steps p.tables e below (T5.setTop (mkF m 17 #[.val (.ref xu), .val (.ref b1), .val (.int (6 : Int32)), .val (.int (1 : Int32)), .val (.ref w_START)] [(.ref w_TASK)])) _
    refine XS.astore X5.here hx rfl (hb hby d7_17) rfl rfl (l' := #[.val (.ref xu), .val (.ref b1), .val (.int (6 : Int32)), .val (.int (1 : Int32)), .val (.ref w_TASK)]) rfl ?_
    show Steps p.tables e below (T5.setTop (mkF m 19 #[.val (.ref xu), .val (.ref b1), .val (.int (6 : Int32)), .val (.int (1 : Int32)), .val (.ref w_TASK)] [])) _
    refine XS.aload X5.here hx rfl (hb hby d7_19) rfl rfl ?_
    show Steps p.tables e below (T5.setTop (mkF m 21 #[.val (.ref xu), .val (.ref b1), .val (.int (6 : Int32)), .val (.int (1 : Int32)), .val (.ref w_TASK)] [(.ref w_TASK)])) _
    refine st7 _ ?_
    show Steps p.tables e below (T7.setTop (mkF m 24 #[.val (.ref xu), .val (.ref b1), .val (.int (6 : Int32)), .val (.int (1 : Int32)), .val (.ref w_TASK)] [(.ref s1u)])) _
    refine XS.aloadN X7.here hx rfl (hb hby d7_24) rfl rfl ?_
    show Steps p.tables e below (T7.setTop (mkF m 25 #[.val (.ref xu), .val (.ref b1), .val (.int (6 : Int32)), .val (.int (1 : Int32)), .val (.ref w_TASK)] [(.ref xu), (.ref s1u)])) _
    refine st8.trans ?_
    show Steps p.tables e below (T8.setTop (mkF m 28 #[.val (.ref xu), .val (.ref b1), .val (.int (6 : Int32)), .val (.int (1 : Int32)), .val (.ref w_TASK)] [(.int (0 : Int32))])) _
    refine XS.ifYes X8.here hx rfl (pc0 := 28) (pc' := 34) rfl (hb hby d7_28) rfl ((if0 _ _).trans (teq (rfl : (0 : Int32) = (0 : Int32))).1) (by decide) (by decide) ?_
    show Steps p.tables e below (T8.setTop (mkF m 34 #[.val (.ref xu), .val (.ref b1), .val (.int (6 : Int32)), .val (.int (1 : Int32)), .val (.ref w_TASK)] [])) _
    refine XS.iinc X8.here hx rfl (hb hby d7_34) rfl (l' := #[.val (.ref xu), .val (.ref b1), .val (.int (6 : Int32)), .val (.int (2 : Int32)), .val (.ref w_TASK)]) rfl ?_
    show Steps p.tables e below (T8.setTop (mkF m 37 #[.val (.ref xu), .val (.ref b1), .val (.int (6 : Int32)), .val (.int (2 : Int32)), .val (.ref w_TASK)] [])) _
    refine XS.goto X8.here hx rfl (pc0 := 37) (pc' := 9) rfl (hb hby d7_37) (by decide) (by decide) ?_
    show Steps p.tables e below (T8.setTop (mkF m 9 #[.val (.ref xu), .val (.ref b1), .val (.int (6 : Int32)), .val (.int (2 : Int32)), .val (.ref w_TASK)] [])) _
    refine XS.iloadN X8.here hx rfl (hb hby d7_9) rfl ?_
    show Steps p.tables e below (T8.setTop (mkF m 10 #[.val (.ref xu), .val (.ref b1), .val (.int (6 : Int32)), .val (.int (2 : Int32)), .val (.ref w_TASK)] [(.int (2 : Int32))])) _
    refine XS.iloadN X8.here hx rfl (hb hby d7_10) rfl ?_
    show Steps p.tables e below (T8.setTop (mkF m 11 #[.val (.ref xu), .val (.ref b1), .val (.int (6 : Int32)), .val (.int (2 : Int32)), .val (.ref w_TASK)] [(.int (6 : Int32)), (.int (2 : Int32))])) _
    refine XS.icmpNo X8.here hx rfl (hb hby d7_11) rfl (tlt (by decide : (2 : Int32) < (6 : Int32))).2.1 ?_
    show Steps p.tables e below (T8.setTop (mkF m 14 #[.val (.ref xu), .val (.ref b1), .val (.int (6 : Int32)), .val (.int (2 : Int32)), .val (.ref w_TASK)] [])) _
    refine XS.aloadN X8.here hx rfl (hb hby d7_14) rfl rfl ?_
    show Steps p.tables e below (T8.setTop (mkF m 15 #[.val (.ref xu), .val (.ref b1), .val (.int (6 : Int32)), .val (.int (2 : Int32)), .val (.ref w_TASK)] [(.ref b1)])) _
    refine XS.iloadN X8.here hx rfl (hb hby d7_15) rfl ?_
    show Steps p.tables e below (T8.setTop (mkF m 16 #[.val (.ref xu), .val (.ref b1), .val (.int (6 : Int32)), .val (.int (2 : Int32)), .val (.ref w_TASK)] [(.int (2 : Int32)), (.ref b1)])) _
    refine X8.aaload hx (j := (2 : Int32)) (v := (.ref w_WAIT)) (by rw [e8]; exact Ar9.1) (State.isArrayOf_alike hZ.alike Ar9.2.1) rfl Ar9.2.2 (inb_of S9 ⟨by decide, by decide⟩) (show cl9.slots[((2 : Int32)).toNatClampNeg]? = some (.ref w_WAIT) from H9 2 (by rw [S9]; decide)) (g := (mkF m 16 #[.val (.ref xu), .val (.ref b1), .val (.int (6 : Int32)), .val (.int (2 : Int32)), .val (.ref w_TASK)] [(.int (2 : Int32)), (.ref b1)])) rfl rfl (hb hby d7_16) _ ?_
    show Steps p.tables e below (T8.setTop (mkF m 17 #[.val (.ref xu), .val (.ref b1), .val (.int (6 : Int32)), .val (.int (2 : Int32)), .val (.ref w_TASK)] [(.ref w_WAIT)])) _
    refine XS.astore X8.here hx rfl (hb hby d7_17) rfl rfl (l' := #[.val (.ref xu), .val (.ref b1), .val (.int (6 : Int32)), .val (.int (2 : Int32)), .val (.ref w_WAIT)]) rfl ?_
    show Steps p.tables e below (T8.setTop (mkF m 19 #[.val (.ref xu), .val (.ref b1), .val (.int (6 : Int32)), .val (.int (2 : Int32)), .val (.ref w_WAIT)] [])) _
    refine XS.aload X8.here hx rfl (hb hby d7_19) rfl rfl ?_
    show Steps p.tables e below (T8.setTop (mkF m 21 #[.val (.ref xu), .val (.ref b1), .val (.int (6 : Int32)), .val (.int (2 : Int32)), .val (.ref w_WAIT)] [(.ref w_WAIT)])) _
    refine st10 _ ?_
    show Steps p.tables e below (T10.setTop (mkF m 24 #[.val (.ref xu), .val (.ref b1), .val (.int (6 : Int32)), .val (.int (2 : Int32)), .val (.ref w_WAIT)] [(.ref s2u)])) _
    refine XS.aloadN X10.here hx rfl (hb hby d7_24) rfl rfl ?_
    show Steps p.tables e below (T10.setTop (mkF m 25 #[.val (.ref xu), .val (.ref b1), .val (.int (6 : Int32)), .val (.int (2 : Int32)), .val (.ref w_WAIT)] [(.ref xu), (.ref s2u)])) _
    refine st11.trans ?_
    show Steps p.tables e below (T11.setTop (mkF m 28 #[.val (.ref xu), .val (.ref b1), .val (.int (6 : Int32)), .val (.int (2 : Int32)), .val (.ref w_WAIT)] [(.int (0 : Int32))])) _
    refine XS.ifYes X11.here hx rfl (pc0 := 28) (pc' := 34) rfl (hb hby d7_28) rfl ((if0 _ _).trans (teq (rfl : (0 : Int32) = (0 : Int32))).1) (by decide) (by decide) ?_
    show Steps p.tables e below (T11.setTop (mkF m 34 #[.val (.ref xu), .val (.ref b1), .val (.int (6 : Int32)), .val (.int (2 : Int32)), .val (.ref w_WAIT)] [])) _
    refine XS.iinc X11.here hx rfl (hb hby d7_34) rfl (l' := #[.val (.ref xu), .val (.ref b1), .val (.int (6 : Int32)), .val (.int (3 : Int32)), .val (.ref w_WAIT)]) rfl ?_
    show Steps p.tables e below (T11.setTop (mkF m 37 #[.val (.ref xu), .val (.ref b1), .val (.int (6 : Int32)), .val (.int (3 : Int32)), .val (.ref w_WAIT)] [])) _
    refine XS.goto X11.here hx rfl (pc0 := 37) (pc' := 9) rfl (hb hby d7_37) (by decide) (by decide) ?_
    show Steps p.tables e below (T11.setTop (mkF m 9 #[.val (.ref xu), .val (.ref b1), .val (.int (6 : Int32)), .val (.int (3 : Int32)), .val (.ref w_WAIT)] [])) _
    refine XS.iloadN X11.here hx rfl (hb hby d7_9) rfl ?_
    show Steps p.tables e below (T11.setTop (mkF m 10 #[.val (.ref xu), .val (.ref b1), .val (.int (6 : Int32)), .val (.int (3 : Int32)), .val (.ref w_WAIT)] [(.int (3 : Int32))])) _
    refine XS.iloadN X11.here hx rfl (hb hby d7_10) rfl ?_
    show Steps p.tables e below (T11.setTop (mkF m 11 #[.val (.ref xu), .val (.ref b1), .val (.int (6 : Int32)), .val (.int (3 : Int32)), .val (.ref w_WAIT)] [(.int (6 : Int32)), (.int (3 : Int32))])) _
    refine XS.icmpNo X11.here hx rfl (hb hby d7_11) rfl (tlt (by decide : (3 : Int32) < (6 : Int32))).2.1 ?_
    show Steps p.tables e below (T11.setTop (mkF m 14 #[.val (.ref xu), .val (.ref b1), .val (.int (6 : Int32)), .val (.int (3 : Int32)), .val (.ref w_WAIT)] [])) _
    refine XS.aloadN X11.here hx rfl (hb hby d7_14) rfl rfl ?_
    show Steps p.tables e below (T11.setTop (mkF m 15 #[.val (.ref xu), .val (.ref b1), .val (.int (6 : Int32)), .val (.int (3 : Int32)), .val (.ref w_WAIT)] [(.ref b1)])) _
    refine XS.iloadN X11.here hx rfl (hb hby d7_15) rfl ?_
    show Steps p.tables e below (T11.setTop (mkF m 16 #[.val (.ref xu), .val (.ref b1), .val (.int (6 : Int32)), .val (.int (3 : Int32)), .val (.ref w_WAIT)] [(.int (3 : Int32)), (.ref b1)])) _
    refine X11.aaload hx (j := (3 : Int32)) (v := (.ref w_FORK)) (by rw [e11]; exact Ar12.1) (State.isArrayOf_alike hZ.alike Ar12.2.1) rfl Ar12.2.2 (inb_of S12 ⟨by decide, by decide⟩) (show cl12.slots[((3 : Int32)).toNatClampNeg]? = some (.ref w_FORK) from H12 3 (by rw [S12]; decide)) (g := (mkF m 16 #[.val (.ref xu), .val (.ref b1), .val (.int (6 : Int32)), .val (.int (3 : Int32)), .val (.ref w_WAIT)] [(.int (3 : Int32)), (.ref b1)])) rfl rfl (hb hby d7_16) _ ?_
    show Steps p.tables e below (T11.setTop (mkF m 17 #[.val (.ref xu), .val (.ref b1), .val (.int (6 : Int32)), .val (.int (3 : Int32)), .val (.ref w_WAIT)] [(.ref w_FORK)])) _
    refine XS.astore X11.here hx rfl (hb hby d7_17) rfl rfl (l' := #[.val (.ref xu), .val (.ref b1), .val (.int (6 : Int32)), .val (.int (3 : Int32)), .val (.ref w_FORK)]) rfl ?_
    show Steps p.tables e below (T11.setTop (mkF m 19 #[.val (.ref xu), .val (.ref b1), .val (.int (6 : Int32)), .val (.int (3 : Int32)), .val (.ref w_FORK)] [])) _
    refine XS.aload X11.here hx rfl (hb hby d7_19) rfl rfl ?_
    show Steps p.tables e below (T11.setTop (mkF m 21 #[.val (.ref xu), .val (.ref b1), .val (.int (6 : Int32)), .val (.int (3 : Int32)), .val (.ref w_FORK)] [(.ref w_FORK)])) _
    refine st13 _ ?_
    show Steps p.tables e below (T13.setTop (mkF m 24 #[.val (.ref xu), .val (.ref b1), .val (.int (6 : Int32)), .val (.int (3 : Int32)), .val (.ref w_FORK)] [(.ref s3u)])) _
    refine XS.aloadN X13.here hx rfl (hb hby d7_24) rfl rfl ?_
    show Steps p.tables e below (T13.setTop (mkF m 25 #[.val (.ref xu), .val (.ref b1), .val (.int (6 : Int32)), .val (.int (3 : Int32)), .val (.ref w_FORK)] [(.ref xu), (.ref s3u)])) _
    refine st14.trans ?_
    show Steps p.tables e below (T14.setTop (mkF m 28 #[.val (.ref xu), .val (.ref b1), .val (.int (6 : Int32)), .val (.int (3 : Int32)), .val (.ref w_FORK)] [(.int (1 : Int32))])) _
    refine XS.ifNo X14.here hx rfl (hb hby d7_28) rfl ((if0 _ _).trans (feq (by decide : ¬ ((1 : Int32) = (0 : Int32)))).1) ?_
    show Steps p.tables e below (T14.setTop (mkF m 31 #[.val (.ref xu), .val (.ref b1), .val (.int (6 : Int32)), .val (.int (3 : Int32)), .val (.ref w_FORK)] [])) _
    refine XS.aload X14.here hx rfl (hb hby d7_31) rfl rfl ?_
    show Steps p.tables e below (T14.setTop (mkF m 33 #[.val (.ref xu), .val (.ref b1), .val (.int (6 : Int32)), .val (.int (3 : Int32)), .val (.ref w_FORK)] [(.ref w_FORK)])) _
    jvm_step X14.here [X14.here.top, hx, (hb hby d7_33), X14.method', Bd.returns, Value.isRef, FieldType.isReference]
    first | (intro acts; rw [hr _ acts rfl rfl rfl]) | rw [hr _ _ rfl rfl rfl]
    exact Steps.refl _
  · show Q_rmF3 Z xu xt xk wV kV w_START w_TASK w_WAIT w_FORK w_JOIN w_SUCCESS s0u s0t s0k s1u s1t s1k s2u s2t s2k s3u s3t s3k s4u s4t s4k s5u s5t s5k zc h0 n0 _ T14.heap _
    rw [e14]
    exact ⟨rfl, N14, own_keep_ext K1⟩
theorem pn_rmF4 : plainName "com/example/nevermind/nevermind/graphs/NodeType" = true := by first | (simp [plainName, overriddenIn]; done) | decide +kernel
theorem pd_rmF4_0 : parseMethodDescriptor "()[Lcom/example/nevermind/nevermind/graphs/NodeType;" = some ⟨[], some (.array (.object "com/example/nevermind/nevermind/graphs/NodeType"))⟩ := by decide +kernel
theorem pd_rmF4_1 : parseMethodDescriptor "(Ljava/lang/Object;)Z" = some ⟨[(.object "java/lang/Object")], some .boolean⟩ := by decide +kernel
theorem ef_rmF4 (m : MethodId) (xu : Addr) : entryFrame m #[(.ref xu)] 5 = mkF m 0 #[.val (.ref xu), .unset, .unset, .unset, .unset] [] := by first | (simp [entryFrame, mkF, argsToLocals, Value.category]; done) | rfl
def Q_rmF4 (Z : State) (xu : Addr) (xt : Addr) (xk : ClassId) (wV : Addr) (kV : ClassId) (w_START : Addr) (w_TASK : Addr) (w_WAIT : Addr) (w_FORK : Addr) (w_JOIN : Addr) (w_SUCCESS : Addr) (s0u : Addr) (s0t : Addr) (s0k : ClassId) (s1u : Addr) (s1t : Addr) (s1k : ClassId) (s2u : Addr) (s2t : Addr) (s2k : ClassId) (s3u : Addr) (s3t : Addr) (s3k : ClassId) (s4u : Addr) (s4t : Addr) (s4k : ClassId) (s5u : Addr) (s5t : Addr) (s5k : ClassId) (zc : Int32) (h0 : Heap) (n0 : Nat) (v : Option Value) (h : Heap) (L : List Loc) : Prop := v = some (.ref w_JOIN) ∧ Fr n0 L ∧ Ext h0 h
set_option maxRecDepth 65536 in
set_option maxHeartbeats 40000000 in
theorem rmF4 (l : Launch) (Z : State) (a0 : Array Value) (hw : ∀ d ∈ tables_1, d.before a0 Z = true) (ws : List Jvm.Cond) (xu : Addr) (xt : Addr) (xk : ClassId) (wV : Addr) (kV : ClassId) (w_START : Addr) (w_TASK : Addr) (w_WAIT : Addr) (w_FORK : Addr) (w_JOIN : Addr) (w_SUCCESS : Addr) (s0u : Addr) (s0t : Addr) (s0k : ClassId) (s1u : Addr) (s1t : Addr) (s1k : ClassId) (s2u : Addr) (s2t : Addr) (s2k : ClassId) (s3u : Addr) (s3t : Addr) (s3k : ClassId) (s4u : Addr) (s4t : Addr) (s4k : ClassId) (s5u : Addr) (s5t : Addr) (s5k : ClassId) (zc : Int32) (h0 : Heap) (n0 : Nat) (Z0 : n0 ≤ h0.size) (xE : Exa Z h0 xu "java/lang/String") (xV : Fld Z h0 xu "java/lang/String" "value" "[B" (.ref xt)) (xC : Fld Z h0 xu "java/lang/String" "coder" "B" (.int (0 : Int32))) (xK : Arv Z h0 xt xk .byte (4 : Int32) (cs4.map Value.int) (.int 0)) (S_V : Sta Z h0 "com/example/nevermind/nevermind/graphs/NodeType" "$VALUES" "[Lcom/example/nevermind/nevermind/graphs/NodeType;" (.ref wV)) (V_V : Arv Z h0 wV kV (.object "com/example/nevermind/nevermind/graphs/NodeType") (6 : Int32) [.ref w_START, .ref w_TASK, .ref w_WAIT, .ref w_FORK, .ref w_JOIN, .ref w_SUCCESS] .null) (E_V : Exa Z h0 wV "[Lcom/example/nevermind/nevermind/graphs/NodeType;") (s0F : Fld Z h0 w_START "com/example/nevermind/nevermind/graphs/NodeType" "wireName" "Ljava/lang/String;" (.ref s0u)) (s0E : Exa Z h0 s0u "java/lang/String") (s0V : Fld Z h0 s0u "java/lang/String" "value" "[B" (.ref s0t)) (s0C : Fld Z h0 s0u "java/lang/String" "coder" "B" (.int (0 : Int32))) (s0K : Arv Z h0 s0t s0k .byte (5 : Int32) (cs0.map Value.int) (.int 0)) (s1F : Fld Z h0 w_TASK "com/example/nevermind/nevermind/graphs/NodeType" "wireName" "Ljava/lang/String;" (.ref s1u)) (s1E : Exa Z h0 s1u "java/lang/String") (s1V : Fld Z h0 s1u "java/lang/String" "value" "[B" (.ref s1t)) (s1C : Fld Z h0 s1u "java/lang/String" "coder" "B" (.int (0 : Int32))) (s1K : Arv Z h0 s1t s1k .byte (4 : Int32) (cs1.map Value.int) (.int 0)) (s2F : Fld Z h0 w_WAIT "com/example/nevermind/nevermind/graphs/NodeType" "wireName" "Ljava/lang/String;" (.ref s2u)) (s2E : Exa Z h0 s2u "java/lang/String") (s2V : Fld Z h0 s2u "java/lang/String" "value" "[B" (.ref s2t)) (s2C : Fld Z h0 s2u "java/lang/String" "coder" "B" (.int (0 : Int32))) (s2K : Arv Z h0 s2t s2k .byte (4 : Int32) (cs2.map Value.int) (.int 0)) (s3F : Fld Z h0 w_FORK "com/example/nevermind/nevermind/graphs/NodeType" "wireName" "Ljava/lang/String;" (.ref s3u)) (s3E : Exa Z h0 s3u "java/lang/String") (s3V : Fld Z h0 s3u "java/lang/String" "value" "[B" (.ref s3t)) (s3C : Fld Z h0 s3u "java/lang/String" "coder" "B" (.int (0 : Int32))) (s3K : Arv Z h0 s3t s3k .byte (4 : Int32) (cs3.map Value.int) (.int 0)) (s4F : Fld Z h0 w_JOIN "com/example/nevermind/nevermind/graphs/NodeType" "wireName" "Ljava/lang/String;" (.ref s4u)) (s4E : Exa Z h0 s4u "java/lang/String") (s4V : Fld Z h0 s4u "java/lang/String" "value" "[B" (.ref s4t)) (s4C : Fld Z h0 s4u "java/lang/String" "coder" "B" (.int (0 : Int32))) (s4K : Arv Z h0 s4t s4k .byte (4 : Int32) (cs4.map Value.int) (.int 0)) (s5F : Fld Z h0 w_SUCCESS "com/example/nevermind/nevermind/graphs/NodeType" "wireName" "Ljava/lang/String;" (.ref s5u)) (s5E : Exa Z h0 s5u "java/lang/String") (s5V : Fld Z h0 s5u "java/lang/String" "value" "[B" (.ref s5t)) (s5C : Fld Z h0 s5u "java/lang/String" "coder" "B" (.int (0 : Int32))) (s5K : Arv Z h0 s5t s5k .byte (7 : Int32) (cs5.map Value.int) (.int 0)) (S_C : Sta Z h0 "java/lang/String" "COMPACT_STRINGS" "Z" (.int zc)) (hzc : ¬ zc = 0) :
    MetFree l (⟨"com/example/nevermind/nevermind/graphs/NodeType", "fromWireName", "(Ljava/lang/String;)Lcom/example/nevermind/nevermind/graphs/NodeType;"⟩ : MethodName) (head1 (Jvm.Cond.code (⟨"com/example/nevermind/nevermind/graphs/NodeType", "fromWireName", "(Ljava/lang/String;)Lcom/example/nevermind/nevermind/graphs/NodeType;"⟩ : MethodName) prog_9_method_5_code 5 (some (.object "com/example/nevermind/nevermind/graphs/NodeType")) :: ws) ({ frames := 2, cells := 1, slots := 6, locals := 28 } : Room)) (fun a U => a = #[(.ref xu)] ∧ Z.Warmed39 U.vm ∧ U.heap = h0) (fun _ _ _ _ _ => True) (fun _ U o U' => ∃ v L, o = .returned v ∧ Q_rmF4 Z xu xt xk wV kV w_START w_TASK w_WAIT w_FORK w_JOIN w_SUCCESS s0u s0t s0k s1u s1t s1k s2u s2t s2k s3u s3t s3k s4u s4t s4k s5u s5t s5k zc h0 n0 v U'.heap L ∧ FrameEnd U o U' L ({ frames := 2, cells := 1, slots := 6, locals := 28 } : Room).cells ({ frames := 2, cells := 1, slots := 6, locals := 28 } : Room).slots) := by
  refine MetFree.of_bodySF (plainFor_of_name pn_rmF4) hisR ?_
  intro p e s m args below meth c s₁ Bd hml0 hP hK
  obtain ⟨rfl, hZ, hh⟩ := hP
  have hx := Bd.exec
  have hby := Bd.bytes
  have hml : c.maxLocals = 5 := hml0
  have hown : s.vm.findClass "com/example/nevermind/nevermind/graphs/NodeType" = some m.cls := findClass_of_methodNamed Bd.named
  have hnm := (name_of_methodNamed Bd.named Bd.method).1
  have X0 : Stand p l e ({ frames := 2, cells := 1, slots := 6, locals := 28 } : Room) s m #[(.ref xu)] below meth c s₁ [] 0 0 := Stand.of_body Bd
  have e0 : s₁.heap = h0 := by rw [← hh, Bd.state]; rfl
  have N0 := Fr.nil n0
  have pre0 : ∀ t, Steps p.tables e below (s₁.setTop (mkF m 0 #[.val (.ref xu), .unset, .unset, .unset, .unset] [])) t → Steps p.tables e below (s₁.setTop (entryFrame m #[(.ref xu)] 5)) t := fun t k => castTop (ef_rmF4 m xu) k
  have hwsE : ∀ d ∈ StrChars.Road.wordsEq, d.before a0 Z = true := fun d hd => hw d ((by decide +kernel : ∀ d ∈ StrChars.Road.wordsEq, d ∈ tables_1) d hd)
  obtain ⟨_, _, ⟨T1, L1, k1, n1⟩, -, X1, ⟨Lc1, hQ1, l1, y1, z1⟩, st1⟩ := Jvm.LawKit.callS X0 hx (y := (⟨"com/example/nevermind/nevermind/graphs/NodeType", "values", "()[Lcom/example/nevermind/nevermind/graphs/NodeType;"⟩ : MethodName)) hown (mvT hZ (hw _ (List.mem_of_getElem? (i := 37) rfl))) (mvT hZ (hw _ (List.mem_of_getElem? (i := 38) rfl))) (mvT hZ (hw _ (List.mem_of_getElem? (i := 3) rfl))) (mvT hZ (hw _ (List.mem_of_getElem? (i := 39) rfl))) (by decide) (backOf (W := 0) (rmV l Z a0 hw [] wV kV w_START w_TASK w_WAIT w_FORK w_JOIN w_SUCCESS h0 n0 Z0 S_V V_V E_V) hZ (hw _ (List.mem_of_getElem? (i := 39) rfl)) (hw _ (List.mem_of_getElem? (i := 3) rfl)) (by decide) (by decide)) (g := (mkF m 0 #[.val (.ref xu), .unset, .unset, .unset, .unset] [])) rfl (by rw [hml]; rfl) (argsL := []) (rest := []) (lenOf pd_rmF4_0 rfl) rfl (by show 2 * 0 + _ ≤ _; exact Nat.le_of_eq rfl) (hb hby d7_0) (fun _ _ => ⟨rfl, e0, (by decide : 0 + 1 ≤ _), (by decide : 0 + 6 ≤ _)⟩)
  dsimp only [Pt.U, Pt.locs, Pt.cells, Pt.slots] at X1 l1 y1 z1 st1 hQ1
  subst l1 y1 z1
  obtain ⟨b1, rfl, N1q, E1q, V1q⟩ := hQ1
  have N1 := Fr.app N0 N1q
  have K1 : Keep h0 T1.heap [] := ((Keep.refl h0 [])).ext E1q
  obtain ⟨cl2, Ar2, q2, S2, N2_, H2, G2⟩ := id V1q
  obtain ⟨cl3, Ar3, q3, S3, N3_, H3, G3⟩ := id V1q
  obtain ⟨T4, X4, e4, st4⟩ := getF X1 hx hZ hown (host := "") (Or.inl (hw _ (List.mem_of_getElem? (i := 57) rfl))) Via.refl rfl (Fld.ext E1q s0F) (g := (mkF m 21 #[.val (.ref xu), .val (.ref b1), .val (.int (6 : Int32)), .val (.int (0 : Int32)), .val (.ref w_START)] [(.ref w_START)])) rfl rfl (hb hby d7_21)
  obtain ⟨cq5, kq5, q5a, q5b, q5c⟩ := isOf hZ e4 (Exa.ext E1q s0E)
  obtain ⟨_, _, ⟨T5, L5, k5, n5⟩, -, X5, ⟨Lc5, hQ5, l5, y5, z5⟩, st5⟩ := X4.virtualBack hx (y := (⟨"java/lang/String", "equals", "(Ljava/lang/Object;)Z"⟩ : MethodName)) (z := (⟨"java/lang/String", "equals", "(Ljava/lang/Object;)Z"⟩ : MethodName)) hown (mvT hZ (hw _ (List.mem_of_getElem? (i := 59) rfl))) (mvT hZ (hw _ (List.mem_of_getElem? (i := 60) rfl))) (notFace_of_selects (args := #[]) (mvT hZ (hw _ (List.mem_of_getElem? (i := 62) rfl)))) (mvT hZ (hw _ (List.mem_of_getElem? (i := 62) rfl))) (mvT hZ (hw _ (List.mem_of_getElem? (i := 61) rfl))) (by decide) (StrChars.Road.eqW (W := 0) hZ hwsE (kI := 4) (hw _ (List.mem_of_getElem? (i := 6) rfl)) (Exa.ext E1q s0E) (Fld.ext E1q s0V) (Fld.ext E1q s0C) (s0K.ext E1q) own_cod0 own_b0 (by decide) (Exa.ext E1q xE) (Fld.ext E1q xV) (Fld.ext E1q xC) (xK.ext E1q) own_cod4 own_b4 (by decide) (Sta.ext E1q S_C) hzc (by decide) (by decide)) q5a q5c (g := (mkF m 25 #[.val (.ref xu), .val (.ref b1), .val (.int (6 : Int32)), .val (.int (0 : Int32)), .val (.ref w_START)] [(.ref xu), (.ref s0u)])) rfl (by rw [hml]; rfl) (Steps.refl _) (argsL := [(.ref xu)]) (rest := []) (lenOf pd_rmF4_1 rfl) rfl (by show 2 * 0 + _ ≤ _; exact Nat.le_of_eq rfl) (hb hby d7_25) (fun _ _ => ⟨rfl, e4, (by decide : 1 + 0 ≤ _), (by decide : 6 + 0 ≤ _)⟩)
  dsimp only [Pt.U, Pt.locs, Pt.cells, Pt.slots] at X5 l5 y5 z5 st5 hQ5
  subst l5 y5 z5
  rcases hQ5 with ⟨⟨hv5, hd5⟩ | ⟨hv5, hd5⟩, hl5, e5⟩
  · exact absurd hd5 (by decide)
  subst hv5 hl5
  have N5 := Fr.app N1 (Fr.nil n0)
  obtain ⟨cl6, Ar6, q6, S6, N6_, H6, G6⟩ := id V1q
  obtain ⟨T7, X7, e7, st7⟩ := getF X5 hx hZ hown (host := "") (Or.inl (hw _ (List.mem_of_getElem? (i := 57) rfl))) Via.refl e5 (Fld.ext E1q s1F) (g := (mkF m 21 #[.val (.ref xu), .val (.ref b1), .val (.int (6 : Int32)), .val (.int (1 : Int32)), .val (.ref w_TASK)] [(.ref w_TASK)])) rfl rfl (hb hby d7_21)
  obtain ⟨cq8, kq8, q8a, q8b, q8c⟩ := isOf hZ e7 (Exa.ext E1q s1E)
  obtain ⟨_, _, ⟨T8, L8, k8, n8⟩, -, X8, ⟨Lc8, hQ8, l8, y8, z8⟩, st8⟩ := X7.virtualBack hx (y := (⟨"java/lang/String", "equals", "(Ljava/lang/Object;)Z"⟩ : MethodName)) (z := (⟨"java/lang/String", "equals", "(Ljava/lang/Object;)Z"⟩ : MethodName)) hown (mvT hZ (hw _ (List.mem_of_getElem? (i := 59) rfl))) (mvT hZ (hw _ (List.mem_of_getElem? (i := 60) rfl))) (notFace_of_selects (args := #[]) (mvT hZ (hw _ (List.mem_of_getElem? (i := 62) rfl)))) (mvT hZ (hw _ (List.mem_of_getElem? (i := 62) rfl))) (mvT hZ (hw _ (List.mem_of_getElem? (i := 61) rfl))) (by decide) (StrChars.Road.eqW (W := 0) hZ hwsE (kI := 4) (hw _ (List.mem_of_getElem? (i := 6) rfl)) (Exa.ext E1q s1E) (Fld.ext E1q s1V) (Fld.ext E1q s1C) (s1K.ext E1q) own_cod1 own_b1 (by decide) (Exa.ext E1q xE) (Fld.ext E1q xV) (Fld.ext E1q xC) (xK.ext E1q) own_cod4 own_b4 (by decide) (Sta.ext E1q S_C) hzc (by decide) (by decide)) q8a q8c (g := (mkF m 25 #[.val (.ref xu), .val (.ref b1), .val (.int (6 : Int32)), .val (.int (1 : Int32)), .val (.ref w_TASK)] [(.ref xu), (.ref s1u)])) rfl (by rw [hml]; rfl) (Steps.refl _) (argsL := [(.ref xu)]) (rest := []) (lenOf pd_rmF4_1 rfl) rfl (by show 2 * 0 + _ ≤ _; exact Nat.le_of_eq rfl) (hb hby d7_25) (fun _ _ => ⟨rfl, e7, (by decide : 1 + 0 ≤ _), (by decide : 6 + 0 ≤ _)⟩)
  dsimp only [Pt.U, Pt.locs, Pt.cells, Pt.slots] at X8 l8 y8 z8 st8 hQ8
  subst l8 y8 z8
  rcases hQ8 with ⟨⟨hv8, hd8⟩ | ⟨hv8, hd8⟩, hl8, e8⟩
  · exact absurd hd8 (by decide)
  subst hv8 hl8
  have N8 := Fr.app N5 (Fr.nil n0)
  obtain ⟨cl9, Ar9, q9, S9, N9_, H9, G9⟩ := id V1q
  obtain ⟨T10, X10, e10, st10⟩ := getF X8 hx hZ hown (host := "") (Or.inl (hw _ (List.mem_of_getElem? (i := 57) rfl))) Via.refl e8 (Fld.ext E1q s2F) (g := (mkF m 21 #[.val (.ref xu), .val (.ref b1), .val (.int (6 : Int32)), .val (.int (2 : Int32)), .val (.ref w_WAIT)] [(.ref w_WAIT)])) rfl rfl (hb hby d7_21)
  obtain ⟨cq11, kq11, q11a, q11b, q11c⟩ := isOf hZ e10 (Exa.ext E1q s2E)
  obtain ⟨_, _, ⟨T11, L11, k11, n11⟩, -, X11, ⟨Lc11, hQ11, l11, y11, z11⟩, st11⟩ := X10.virtualBack hx (y := (⟨"java/lang/String", "equals", "(Ljava/lang/Object;)Z"⟩ : MethodName)) (z := (⟨"java/lang/String", "equals", "(Ljava/lang/Object;)Z"⟩ : MethodName)) hown (mvT hZ (hw _ (List.mem_of_getElem? (i := 59) rfl))) (mvT hZ (hw _ (List.mem_of_getElem? (i := 60) rfl))) (notFace_of_selects (args := #[]) (mvT hZ (hw _ (List.mem_of_getElem? (i := 62) rfl)))) (mvT hZ (hw _ (List.mem_of_getElem? (i := 62) rfl))) (mvT hZ (hw _ (List.mem_of_getElem? (i := 61) rfl))) (by decide) (StrChars.Road.eqW (W := 0) hZ hwsE (kI := 4) (hw _ (List.mem_of_getElem? (i := 6) rfl)) (Exa.ext E1q s2E) (Fld.ext E1q s2V) (Fld.ext E1q s2C) (s2K.ext E1q) own_cod2 own_b2 (by decide) (Exa.ext E1q xE) (Fld.ext E1q xV) (Fld.ext E1q xC) (xK.ext E1q) own_cod4 own_b4 (by decide) (Sta.ext E1q S_C) hzc (by decide) (by decide)) q11a q11c (g := (mkF m 25 #[.val (.ref xu), .val (.ref b1), .val (.int (6 : Int32)), .val (.int (2 : Int32)), .val (.ref w_WAIT)] [(.ref xu), (.ref s2u)])) rfl (by rw [hml]; rfl) (Steps.refl _) (argsL := [(.ref xu)]) (rest := []) (lenOf pd_rmF4_1 rfl) rfl (by show 2 * 0 + _ ≤ _; exact Nat.le_of_eq rfl) (hb hby d7_25) (fun _ _ => ⟨rfl, e10, (by decide : 1 + 0 ≤ _), (by decide : 6 + 0 ≤ _)⟩)
  dsimp only [Pt.U, Pt.locs, Pt.cells, Pt.slots] at X11 l11 y11 z11 st11 hQ11
  subst l11 y11 z11
  rcases hQ11 with ⟨⟨hv11, hd11⟩ | ⟨hv11, hd11⟩, hl11, e11⟩
  · exact absurd hd11 (by decide)
  subst hv11 hl11
  have N11 := Fr.app N8 (Fr.nil n0)
  obtain ⟨cl12, Ar12, q12, S12, N12_, H12, G12⟩ := id V1q
  obtain ⟨T13, X13, e13, st13⟩ := getF X11 hx hZ hown (host := "") (Or.inl (hw _ (List.mem_of_getElem? (i := 57) rfl))) Via.refl e11 (Fld.ext E1q s3F) (g := (mkF m 21 #[.val (.ref xu), .val (.ref b1), .val (.int (6 : Int32)), .val (.int (3 : Int32)), .val (.ref w_FORK)] [(.ref w_FORK)])) rfl rfl (hb hby d7_21)
  obtain ⟨cq14, kq14, q14a, q14b, q14c⟩ := isOf hZ e13 (Exa.ext E1q s3E)
  obtain ⟨_, _, ⟨T14, L14, k14, n14⟩, -, X14, ⟨Lc14, hQ14, l14, y14, z14⟩, st14⟩ := X13.virtualBack hx (y := (⟨"java/lang/String", "equals", "(Ljava/lang/Object;)Z"⟩ : MethodName)) (z := (⟨"java/lang/String", "equals", "(Ljava/lang/Object;)Z"⟩ : MethodName)) hown (mvT hZ (hw _ (List.mem_of_getElem? (i := 59) rfl))) (mvT hZ (hw _ (List.mem_of_getElem? (i := 60) rfl))) (notFace_of_selects (args := #[]) (mvT hZ (hw _ (List.mem_of_getElem? (i := 62) rfl)))) (mvT hZ (hw _ (List.mem_of_getElem? (i := 62) rfl))) (mvT hZ (hw _ (List.mem_of_getElem? (i := 61) rfl))) (by decide) (StrChars.Road.eqW (W := 0) hZ hwsE (kI := 4) (hw _ (List.mem_of_getElem? (i := 6) rfl)) (Exa.ext E1q s3E) (Fld.ext E1q s3V) (Fld.ext E1q s3C) (s3K.ext E1q) own_cod3 own_b3 (by decide) (Exa.ext E1q xE) (Fld.ext E1q xV) (Fld.ext E1q xC) (xK.ext E1q) own_cod4 own_b4 (by decide) (Sta.ext E1q S_C) hzc (by decide) (by decide)) q14a q14c (g := (mkF m 25 #[.val (.ref xu), .val (.ref b1), .val (.int (6 : Int32)), .val (.int (3 : Int32)), .val (.ref w_FORK)] [(.ref xu), (.ref s3u)])) rfl (by rw [hml]; rfl) (Steps.refl _) (argsL := [(.ref xu)]) (rest := []) (lenOf pd_rmF4_1 rfl) rfl (by show 2 * 0 + _ ≤ _; exact Nat.le_of_eq rfl) (hb hby d7_25) (fun _ _ => ⟨rfl, e13, (by decide : 1 + 0 ≤ _), (by decide : 6 + 0 ≤ _)⟩)
  dsimp only [Pt.U, Pt.locs, Pt.cells, Pt.slots] at X14 l14 y14 z14 st14 hQ14
  subst l14 y14 z14
  rcases hQ14 with ⟨⟨hv14, hd14⟩ | ⟨hv14, hd14⟩, hl14, e14⟩
  · exact absurd hd14 (by decide)
  subst hv14 hl14
  have N14 := Fr.app N11 (Fr.nil n0)
  obtain ⟨cl15, Ar15, q15, S15, N15_, H15, G15⟩ := id V1q
  obtain ⟨T16, X16, e16, st16⟩ := getF X14 hx hZ hown (host := "") (Or.inl (hw _ (List.mem_of_getElem? (i := 57) rfl))) Via.refl e14 (Fld.ext E1q s4F) (g := (mkF m 21 #[.val (.ref xu), .val (.ref b1), .val (.int (6 : Int32)), .val (.int (4 : Int32)), .val (.ref w_JOIN)] [(.ref w_JOIN)])) rfl rfl (hb hby d7_21)
  obtain ⟨cq17, kq17, q17a, q17b, q17c⟩ := isOf hZ e16 (Exa.ext E1q s4E)
  obtain ⟨_, _, ⟨T17, L17, k17, n17⟩, -, X17, ⟨Lc17, hQ17, l17, y17, z17⟩, st17⟩ := X16.virtualBack hx (y := (⟨"java/lang/String", "equals", "(Ljava/lang/Object;)Z"⟩ : MethodName)) (z := (⟨"java/lang/String", "equals", "(Ljava/lang/Object;)Z"⟩ : MethodName)) hown (mvT hZ (hw _ (List.mem_of_getElem? (i := 59) rfl))) (mvT hZ (hw _ (List.mem_of_getElem? (i := 60) rfl))) (notFace_of_selects (args := #[]) (mvT hZ (hw _ (List.mem_of_getElem? (i := 62) rfl)))) (mvT hZ (hw _ (List.mem_of_getElem? (i := 62) rfl))) (mvT hZ (hw _ (List.mem_of_getElem? (i := 61) rfl))) (by decide) (StrChars.Road.eqW (W := 0) hZ hwsE (kI := 4) (hw _ (List.mem_of_getElem? (i := 6) rfl)) (Exa.ext E1q s4E) (Fld.ext E1q s4V) (Fld.ext E1q s4C) (s4K.ext E1q) own_cod4 own_b4 (by decide) (Exa.ext E1q xE) (Fld.ext E1q xV) (Fld.ext E1q xC) (xK.ext E1q) own_cod4 own_b4 (by decide) (Sta.ext E1q S_C) hzc (by decide) (by decide)) q17a q17c (g := (mkF m 25 #[.val (.ref xu), .val (.ref b1), .val (.int (6 : Int32)), .val (.int (4 : Int32)), .val (.ref w_JOIN)] [(.ref xu), (.ref s4u)])) rfl (by rw [hml]; rfl) (Steps.refl _) (argsL := [(.ref xu)]) (rest := []) (lenOf pd_rmF4_1 rfl) rfl (by show 2 * 0 + _ ≤ _; exact Nat.le_of_eq rfl) (hb hby d7_25) (fun _ _ => ⟨rfl, e16, (by decide : 1 + 0 ≤ _), (by decide : 6 + 0 ≤ _)⟩)
  dsimp only [Pt.U, Pt.locs, Pt.cells, Pt.slots] at X17 l17 y17 z17 st17 hQ17
  subst l17 y17 z17
  rcases hQ17 with ⟨⟨hv17, hd17⟩ | ⟨hv17, hd17⟩, hl17, e17⟩
  rotate_left
  · exact absurd rfl hd17
  subst hv17 hl17
  have N17 := Fr.app N14 (Fr.nil n0)
  obtain ⟨fs, hr, hrun, hended, hW, hsame⟩ := X17.leave (v := some (.ref w_JOIN)) (fun h => by rw [Bd.returns] at h; cases h)
  refine ⟨_, _, pre0 _ ?_, hrun, hended, _, _, rfl, ?_, ⟨_, rfl⟩, hW, hsame.mono (by decide) (by decide)⟩
  · show Steps p.tables e below (s₁.setTop (mkF m 0 #[.val (.ref xu), .unset, .unset, .unset, .unset] [])) _
    refine st1 _ ?_
    show Steps p.tables e below (T1.setTop (mkF m 3 #[.val (.ref xu), .unset, .unset, .unset, .unset] [(.ref b1)])) _
    refine XS.astoreN X1.here hx rfl (hb hby d7_3) rfl rfl (l' := #[.val (.ref xu), .val (.ref b1), .unset, .unset, .unset]) rfl ?_
    show Steps p.tables e below (T1.setTop (mkF m 4 #[.val (.ref xu), .val (.ref b1), .unset, .unset, .unset] [])) _
    refine XS.aloadN X1.here hx rfl (hb hby d7_4) rfl rfl ?_
    show Steps p.tables e below (T1.setTop (mkF m 5 #[.val (.ref xu), .val (.ref b1), .unset, .unset, .unset] [(.ref b1)])) _
    refine X1.arraylength hx (Ar2.1) (State.isArrayOf_alike hZ.alike Ar2.2.1) (g := (mkF m 5 #[.val (.ref xu), .val (.ref b1), .unset, .unset, .unset] [(.ref b1)])) rfl rfl (hb hby d7_5) _ ?_
    rw [len_of S2 N2_]
    show Steps p.tables e below (T1.setTop (mkF m 6 #[.val (.ref xu), .val (.ref b1), .unset, .unset, .unset] [(.int (6 : Int32))])) _
    refine XS.istoreN X1.here hx rfl (hb hby d7_6) rfl (l' := #[.val (.ref xu), .val (.ref b1), .val (.int (6 : Int32)), .unset, .unset]) rfl ?_
    show Steps p.tables e below (T1.setTop (mkF m 7 #[.val (.ref xu), .val (.ref b1), .val (.int (6 : Int32)), .unset, .unset] [])) _
    refine XS.iconst X1.here hx rfl (hb hby d7_7) ?_
    show Steps p.tables e below (T1.setTop (mkF m 8 #[.val (.ref xu), .val (.ref b1), .val (.int (6 : Int32)), .unset, .unset] [(.int (0 : Int32))])) _
    refine XS.istoreN X1.here hx rfl (hb hby d7_8) rfl (l' := #[.val (.ref xu), .val (.ref b1), .val (.int (6 : Int32)), .val (.int (0 : Int32)), .unset]) rfl ?_
    show Steps p.tables e below (T1.setTop (mkF m 9 #[.val (.ref xu), .val (.ref b1), .val (.int (6 : Int32)), .val (.int (0 : Int32)), .unset] [])) _
    refine XS.iloadN X1.here hx rfl (hb hby d7_9) rfl ?_
    show Steps p.tables e below (T1.setTop (mkF m 10 #[.val (.ref xu), .val (.ref b1), .val (.int (6 : Int32)), .val (.int (0 : Int32)), .unset] [(.int (0 : Int32))])) _
    refine XS.iloadN X1.here hx rfl (hb hby d7_10) rfl ?_
    show Steps p.tables e below (T1.setTop (mkF m 11 #[.val (.ref xu), .val (.ref b1), .val (.int (6 : Int32)), .val (.int (0 : Int32)), .unset] [(.int (6 : Int32)), (.int (0 : Int32))])) _
    refine XS.icmpNo X1.here hx rfl (hb hby d7_11) rfl (tlt (by decide : (0 : Int32) < (6 : Int32))).2.1 ?_
    show Steps p.tables e below (T1.setTop (mkF m 14 #[.val (.ref xu), .val (.ref b1), .val (.int (6 : Int32)), .val (.int (0 : Int32)), .unset] [])) _
    refine XS.aloadN X1.here hx rfl (hb hby d7_14) rfl rfl ?_
    show Steps p.tables e below (T1.setTop (mkF m 15 #[.val (.ref xu), .val (.ref b1), .val (.int (6 : Int32)), .val (.int (0 : Int32)), .unset] [(.ref b1)])) _
    refine XS.iloadN X1.here hx rfl (hb hby d7_15) rfl ?_
    show Steps p.tables e below (T1.setTop (mkF m 16 #[.val (.ref xu), .val (.ref b1), .val (.int (6 : Int32)), .val (.int (0 : Int32)), .unset] [(.int (0 : Int32)), (.ref b1)])) _
    refine X1.aaload hx (j := (0 : Int32)) (v := (.ref w_START)) (Ar3.1) (State.isArrayOf_alike hZ.alike Ar3.2.1) rfl Ar3.2.2 (inb_of S3 ⟨by decide, by decide⟩) (show cl3.slots[((0 : Int32)).toNatClampNeg]? = some (.ref w_START) from H3 0 (by rw [S3]; decide)) (g := (mkF m 16 #[.val (.ref xu), .val (.ref b1), .val (.int (6 : Int32)), .val (.int (0 : Int32)), .unset] [(.int (0 : Int32)), (.ref b1)])) rfl rfl (hb hby d7_16) _ ?_
    show Steps p.tables e below (T1.setTop (mkF m 17 #[.val (.ref xu), .val (.ref b1), .val (.int (6 : Int32)), .val (.int (0 : Int32)), .unset] [(.ref w_START)])) _
    refine XS.astore X1.here hx rfl (hb hby d7_17) rfl rfl (l' := #[.val (.ref xu), .val (.ref b1), .val (.int (6 : Int32)), .val (.int (0 : Int32)), .val (.ref w_START)]) rfl ?_
    show Steps p.tables e below (T1.setTop (mkF m 19 #[.val (.ref xu), .val (.ref b1), .val (.int (6 : Int32)), .val (.int (0 : Int32)), .val (.ref w_START)] [])) _
    refine XS.aload X1.here hx rfl (hb hby d7_19) rfl rfl ?_
    show Steps p.tables e below (T1.setTop (mkF m 21 #[.val (.ref xu), .val (.ref b1), .val (.int (6 : Int32)), .val (.int (0 : Int32)), .val (.ref w_START)] [(.ref w_START)])) _
    refine st4 _ ?_
    show Steps p.tables e below (T4.setTop (mkF m 24 #[.val (.ref xu), .val (.ref b1), .val (.int (6 : Int32)), .val (.int (0 : Int32)), .val (.ref w_START)] [(.ref s0u)])) _
    refine XS.aloadN X4.here hx rfl (hb hby d7_24) rfl rfl ?_
    show Steps p.tables e below (T4.setTop (mkF m 25 #[.val (.ref xu), .val (.ref b1), .val (.int (6 : Int32)), .val (.int (0 : Int32)), .val (.ref w_START)] [(.ref xu), (.ref s0u)])) _
    refine st5.trans ?_
    show Steps p.tables e below (T5.setTop (mkF m 28 #[.val (.ref xu), .val (.ref b1), .val (.int (6 : Int32)), .val (.int (0 : Int32)), .val (.ref w_START)] [(.int (0 : Int32))])) _
    refine XS.ifYes X5.here hx rfl (pc0 := 28) (pc' := 34) rfl (hb hby d7_28) rfl ((if0 _ _).trans (teq (rfl : (0 : Int32) = (0 : Int32))).1) (by decide) (by decide) ?_
    show Steps p.tables e below (T5.setTop (mkF m 34 #[.val (.ref xu), .val (.ref b1), .val (.int (6 : Int32)), .val (.int (0 : Int32)), .val (.ref w_START)] [])) _
    refine XS.iinc X5.here hx rfl (hb hby d7_34) rfl (l' := #[.val (.ref xu), .val (.ref b1), .val (.int (6 : Int32)), .val (.int (1 : Int32)), .val (.ref w_START)]) rfl ?_
    show Steps p.tables e below (T5.setTop (mkF m 37 #[.val (.ref xu), .val (.ref b1), .val (.int (6 : Int32)), .val (.int (1 : Int32)), .val (.ref w_START)] [])) _
    refine XS.goto X5.here hx rfl (pc0 := 37) (pc' := 9) rfl (hb hby d7_37) (by decide) (by decide) ?_
    show Steps p.tables e below (T5.setTop (mkF m 9 #[.val (.ref xu), .val (.ref b1), .val (.int (6 : Int32)), .val (.int (1 : Int32)), .val (.ref w_START)] [])) _
    refine XS.iloadN X5.here hx rfl (hb hby d7_9) rfl ?_
    show Steps p.tables e below (T5.setTop (mkF m 10 #[.val (.ref xu), .val (.ref b1), .val (.int (6 : Int32)), .val (.int (1 : Int32)), .val (.ref w_START)] [(.int (1 : Int32))])) _
    refine XS.iloadN X5.here hx rfl (hb hby d7_10) rfl ?_
    show Steps p.tables e below (T5.setTop (mkF m 11 #[.val (.ref xu), .val (.ref b1), .val (.int (6 : Int32)), .val (.int (1 : Int32)), .val (.ref w_START)] [(.int (6 : Int32)), (.int (1 : Int32))])) _
    refine XS.icmpNo X5.here hx rfl (hb hby d7_11) rfl (tlt (by decide : (1 : Int32) < (6 : Int32))).2.1 ?_
    show Steps p.tables e below (T5.setTop (mkF m 14 #[.val (.ref xu), .val (.ref b1), .val (.int (6 : Int32)), .val (.int (1 : Int32)), .val (.ref w_START)] [])) _
    refine XS.aloadN X5.here hx rfl (hb hby d7_14) rfl rfl ?_
    show Steps p.tables e below (T5.setTop (mkF m 15 #[.val (.ref xu), .val (.ref b1), .val (.int (6 : Int32)), .val (.int (1 : Int32)), .val (.ref w_START)] [(.ref b1)])) _
    refine XS.iloadN X5.here hx rfl (hb hby d7_15) rfl ?_
    show Steps p.tables e below (T5.setTop (mkF m 16 #[.val (.ref xu), .val (.ref b1), .val (.int (6 : Int32)), .val (.int (1 : Int32)), .val (.ref w_START)] [(.int (1 : Int32)), (.ref b1)])) _
    refine X5.aaload hx (j := (1 : Int32)) (v := (.ref w_TASK)) (by rw [e5]; exact Ar6.1) (State.isArrayOf_alike hZ.alike Ar6.2.1) rfl Ar6.2.2 (inb_of S6 ⟨by decide, by decide⟩) (show cl6.slots[((1 : Int32)).toNatClampNeg]? = some (.ref w_TASK) from H6 1 (by rw [S6]; decide)) (g := (mkF m 16 #[.val (.ref xu), .val (.ref b1), .val (.int (6 : Int32)), .val (.int (1 : Int32)), .val (.ref w_START)] [(.int (1 : Int32)), (.ref b1)])) rfl rfl (hb hby d7_16) _ ?_
    show Steps p.tables e below (T5.setTop (mkF m 17 #[.val (.ref xu), .val (.ref b1), .val (.int (6 : Int32)), .val (.int (1 : Int32)), .val (.ref w_START)] [(.ref w_TASK)])) _
    refine XS.astore X5.here hx rfl (hb hby d7_17) rfl rfl (l' := #[.val (.ref xu), .val (.ref b1), .val (.int (6 : Int32)), .val (.int (1 : Int32)), .val (.ref w_TASK)]) rfl ?_
    show Steps p.tables e below (T5.setTop (mkF m 19 #[.val (.ref xu), .val (.ref b1), .val (.int (6 : Int32)), .val (.int (1 : Int32)), .val (.ref w_TASK)] [])) _
    refine XS.aload X5.here hx rfl (hb hby d7_19) rfl rfl ?_
    show Steps p.tables e below (T5.setTop (mkF m 21 #[.val (.ref xu), .val (.ref b1), .val (.int (6 : Int32)), .val (.int (1 : Int32)), .val (.ref w_TASK)] [(.ref w_TASK)])) _
    refine st7 _ ?_
    show Steps p.tables e below (T7.setTop (mkF m 24 #[.val (.ref xu), .val (.ref b1), .val (.int (6 : Int32)), .val (.int (1 : Int32)), .val (.ref w_TASK)] [(.ref s1u)])) _
    refine XS.aloadN X7.here hx rfl (hb hby d7_24) rfl rfl ?_
    show Steps p.tables e below (T7.setTop (mkF m 25 #[.val (.ref xu), .val (.ref b1), .val (.int (6 : Int32)), .val (.int (1 : Int32)), .val (.ref w_TASK)] [(.ref xu), (.ref s1u)])) _
    refine st8.trans ?_
    show Steps p.tables e below (T8.setTop (mkF m 28 #[.val (.ref xu), .val (.ref b1), .val (.int (6 : Int32)), .val (.int (1 : Int32)), .val (.ref w_TASK)] [(.int (0 : Int32))])) _
    refine XS.ifYes X8.here hx rfl (pc0 := 28) (pc' := 34) rfl (hb hby d7_28) rfl ((if0 _ _).trans (teq (rfl : (0 : Int32) = (0 : Int32))).1) (by decide) (by decide) ?_
    show Steps p.tables e below (T8.setTop (mkF m 34 #[.val (.ref xu), .val (.ref b1), .val (.int (6 : Int32)), .val (.int (1 : Int32)), .val (.ref w_TASK)] [])) _
    refine XS.iinc X8.here hx rfl (hb hby d7_34) rfl (l' := #[.val (.ref xu), .val (.ref b1), .val (.int (6 : Int32)), .val (.int (2 : Int32)), .val (.ref w_TASK)]) rfl ?_
    show Steps p.tables e below (T8.setTop (mkF m 37 #[.val (.ref xu), .val (.ref b1), .val (.int (6 : Int32)), .val (.int (2 : Int32)), .val (.ref w_TASK)] [])) _
    refine XS.goto X8.here hx rfl (pc0 := 37) (pc' := 9) rfl (hb hby d7_37) (by decide) (by decide) ?_
    show Steps p.tables e below (T8.setTop (mkF m 9 #[.val (.ref xu), .val (.ref b1), .val (.int (6 : Int32)), .val (.int (2 : Int32)), .val (.ref w_TASK)] [])) _
    refine XS.iloadN X8.here hx rfl (hb hby d7_9) rfl ?_
    show Steps p.tables e below (T8.setTop (mkF m 10 #[.val (.ref xu), .val (.ref b1), .val (.int (6 : Int32)), .val (.int (2 : Int32)), .val (.ref w_TASK)] [(.int (2 : Int32))])) _
    refine XS.iloadN X8.here hx rfl (hb hby d7_10) rfl ?_
    show Steps p.tables e below (T8.setTop (mkF m 11 #[.val (.ref xu), .val (.ref b1), .val (.int (6 : Int32)), .val (.int (2 : Int32)), .val (.ref w_TASK)] [(.int (6 : Int32)), (.int (2 : Int32))])) _
    refine XS.icmpNo X8.here hx rfl (hb hby d7_11) rfl (tlt (by decide : (2 : Int32) < (6 : Int32))).2.1 ?_
    show Steps p.tables e below (T8.setTop (mkF m 14 #[.val (.ref xu), .val (.ref b1), .val (.int (6 : Int32)), .val (.int (2 : Int32)), .val (.ref w_TASK)] [])) _
    refine XS.aloadN X8.here hx rfl (hb hby d7_14) rfl rfl ?_
    show Steps p.tables e below (T8.setTop (mkF m 15 #[.val (.ref xu), .val (.ref b1), .val (.int (6 : Int32)), .val (.int (2 : Int32)), .val (.ref w_TASK)] [(.ref b1)])) _
    refine XS.iloadN X8.here hx rfl (hb hby d7_15) rfl ?_
    show Steps p.tables e below (T8.setTop (mkF m 16 #[.val (.ref xu), .val (.ref b1), .val (.int (6 : Int32)), .val (.int (2 : Int32)), .val (.ref w_TASK)] [(.int (2 : Int32)), (.ref b1)])) _
    refine X8.aaload hx (j := (2 : Int32)) (v := (.ref w_WAIT)) (by rw [e8]; exact Ar9.1) (State.isArrayOf_alike hZ.alike Ar9.2.1) rfl Ar9.2.2 (inb_of S9 ⟨by decide, by decide⟩) (show cl9.slots[((2 : Int32)).toNatClampNeg]? = some (.ref w_WAIT) from H9 2 (by rw [S9]; decide)) (g := (mkF m 16 #[.val (.ref xu), .val (.ref b1), .val (.int (6 : Int32)), .val (.int (2 : Int32)), .val (.ref w_TASK)] [(.int (2 : Int32)), (.ref b1)])) rfl rfl (hb hby d7_16) _ ?_
    show Steps p.tables e below (T8.setTop (mkF m 17 #[.val (.ref xu), .val (.ref b1), .val (.int (6 : Int32)), .val (.int (2 : Int32)), .val (.ref w_TASK)] [(.ref w_WAIT)])) _
    refine XS.astore X8.here hx rfl (hb hby d7_17) rfl rfl (l' := #[.val (.ref xu), .val (.ref b1), .val (.int (6 : Int32)), .val (.int (2 : Int32)), .val (.ref w_WAIT)]) rfl ?_
    show Steps p.tables e below (T8.setTop (mkF m 19 #[.val (.ref xu), .val (.ref b1), .val (.int (6 : Int32)), .val (.int (2 : Int32)), .val (.ref w_WAIT)] [])) _
    refine XS.aload X8.here hx rfl (hb hby d7_19) rfl rfl ?_
    show Steps p.tables e below (T8.setTop (mkF m 21 #[.val (.ref xu), .val (.ref b1), .val (.int (6 : Int32)), .val (.int (2 : Int32)), .val (.ref w_WAIT)] [(.ref w_WAIT)])) _
    refine st10 _ ?_
    show Steps p.tables e below (T10.setTop (mkF m 24 #[.val (.ref xu), .val (.ref b1), .val (.int (6 : Int32)), .val (.int (2 : Int32)), .val (.ref w_WAIT)] [(.ref s2u)])) _
    refine XS.aloadN X10.here hx rfl (hb hby d7_24) rfl rfl ?_
    show Steps p.tables e below (T10.setTop (mkF m 25 #[.val (.ref xu), .val (.ref b1), .val (.int (6 : Int32)), .val (.int (2 : Int32)), .val (.ref w_WAIT)] [(.ref xu), (.ref s2u)])) _
    refine st11.trans ?_
    show Steps p.tables e below (T11.setTop (mkF m 28 #[.val (.ref xu), .val (.ref b1), .val (.int (6 : Int32)), .val (.int (2 : Int32)), .val (.ref w_WAIT)] [(.int (0 : Int32))])) _
    refine XS.ifYes X11.here hx rfl (pc0 := 28) (pc' := 34) rfl (hb hby d7_28) rfl ((if0 _ _).trans (teq (rfl : (0 : Int32) = (0 : Int32))).1) (by decide) (by decide) ?_
    show Steps p.tables e below (T11.setTop (mkF m 34 #[.val (.ref xu), .val (.ref b1), .val (.int (6 : Int32)), .val (.int (2 : Int32)), .val (.ref w_WAIT)] [])) _
    refine XS.iinc X11.here hx rfl (hb hby d7_34) rfl (l' := #[.val (.ref xu), .val (.ref b1), .val (.int (6 : Int32)), .val (.int (3 : Int32)), .val (.ref w_WAIT)]) rfl ?_
    show Steps p.tables e below (T11.setTop (mkF m 37 #[.val (.ref xu), .val (.ref b1), .val (.int (6 : Int32)), .val (.int (3 : Int32)), .val (.ref w_WAIT)] [])) _
    refine XS.goto X11.here hx rfl (pc0 := 37) (pc' := 9) rfl (hb hby d7_37) (by decide) (by decide) ?_
    show Steps p.tables e below (T11.setTop (mkF m 9 #[.val (.ref xu), .val (.ref b1), .val (.int (6 : Int32)), .val (.int (3 : Int32)), .val (.ref w_WAIT)] [])) _
    refine XS.iloadN X11.here hx rfl (hb hby d7_9) rfl ?_
    show Steps p.tables e below (T11.setTop (mkF m 10 #[.val (.ref xu), .val (.ref b1), .val (.int (6 : Int32)), .val (.int (3 : Int32)), .val (.ref w_WAIT)] [(.int (3 : Int32))])) _
    refine XS.iloadN X11.here hx rfl (hb hby d7_10) rfl ?_
    show Steps p.tables e below (T11.setTop (mkF m 11 #[.val (.ref xu), .val (.ref b1), .val (.int (6 : Int32)), .val (.int (3 : Int32)), .val (.ref w_WAIT)] [(.int (6 : Int32)), (.int (3 : Int32))])) _
    refine XS.icmpNo X11.here hx rfl (hb hby d7_11) rfl (tlt (by decide : (3 : Int32) < (6 : Int32))).2.1 ?_
    show Steps p.tables e below (T11.setTop (mkF m 14 #[.val (.ref xu), .val (.ref b1), .val (.int (6 : Int32)), .val (.int (3 : Int32)), .val (.ref w_WAIT)] [])) _
    refine XS.aloadN X11.here hx rfl (hb hby d7_14) rfl rfl ?_
    show Steps p.tables e below (T11.setTop (mkF m 15 #[.val (.ref xu), .val (.ref b1), .val (.int (6 : Int32)), .val (.int (3 : Int32)), .val (.ref w_WAIT)] [(.ref b1)])) _
    refine XS.iloadN X11.here hx rfl (hb hby d7_15) rfl ?_
    show Steps p.tables e below (T11.setTop (mkF m 16 #[.val (.ref xu), .val (.ref b1), .val (.int (6 : Int32)), .val (.int (3 : Int32)), .val (.ref w_WAIT)] [(.int (3 : Int32)), (.ref b1)])) _
    refine X11.aaload hx (j := (3 : Int32)) (v := (.ref w_FORK)) (by rw [e11]; exact Ar12.1) (State.isArrayOf_alike hZ.alike Ar12.2.1) rfl Ar12.2.2 (inb_of S12 ⟨by decide, by decide⟩) (show cl12.slots[((3 : Int32)).toNatClampNeg]? = some (.ref w_FORK) from H12 3 (by rw [S12]; decide)) (g := (mkF m 16 #[.val (.ref xu), .val (.ref b1), .val (.int (6 : Int32)), .val (.int (3 : Int32)), .val (.ref w_WAIT)] [(.int (3 : Int32)), (.ref b1)])) rfl rfl (hb hby d7_16) _ ?_
    show Steps p.tables e below (T11.setTop (mkF m 17 #[.val (.ref xu), .val (.ref b1), .val (.int (6 : Int32)), .val (.int (3 : Int32)), .val (.ref w_WAIT)] [(.ref w_FORK)])) _
    refine XS.astore X11.here hx rfl (hb hby d7_17) rfl rfl (l' := #[.val (.ref xu), .val (.ref b1), .val (.int (6 : Int32)), .val (.int (3 : Int32)), .val (.ref w_FORK)]) rfl ?_
    show Steps p.tables e below (T11.setTop (mkF m 19 #[.val (.ref xu), .val (.ref b1), .val (.int (6 : Int32)), .val (.int (3 : Int32)), .val (.ref w_FORK)] [])) _
    refine XS.aload X11.here hx rfl (hb hby d7_19) rfl rfl ?_
    show Steps p.tables e below (T11.setTop (mkF m 21 #[.val (.ref xu), .val (.ref b1), .val (.int (6 : Int32)), .val (.int (3 : Int32)), .val (.ref w_FORK)] [(.ref w_FORK)])) _
    refine st13 _ ?_
    show Steps p.tables e below (T13.setTop (mkF m 24 #[.val (.ref xu), .val (.ref b1), .val (.int (6 : Int32)), .val (.int (3 : Int32)), .val (.ref w_FORK)] [(.ref s3u)])) _
    refine XS.aloadN X13.here hx rfl (hb hby d7_24) rfl rfl ?_
    show Steps p.tables e below (T13.setTop (mkF m 25 #[.val (.ref xu), .val (.ref b1), .val (.int (6 : Int32)), .val (.int (3 : Int32)), .val (.ref w_FORK)] [(.ref xu), (.ref s3u)])) _
    refine st14.trans ?_
    show Steps p.tables e below (T14.setTop (mkF m 28 #[.val (.ref xu), .val (.ref b1), .val (.int (6 : Int32)), .val (.int (3 : Int32)), .val (.ref w_FORK)] [(.int (0 : Int32))])) _
    refine XS.ifYes X14.here hx rfl (pc0 := 28) (pc' := 34) rfl (hb hby d7_28) rfl ((if0 _ _).trans (teq (rfl : (0 : Int32) = (0 : Int32))).1) (by decide) (by decide) ?_
    show Steps p.tables e below (T14.setTop (mkF m 34 #[.val (.ref xu), .val (.ref b1), .val (.int (6 : Int32)), .val (.int (3 : Int32)), .val (.ref w_FORK)] [])) _
    refine XS.iinc X14.here hx rfl (hb hby d7_34) rfl (l' := #[.val (.ref xu), .val (.ref b1), .val (.int (6 : Int32)), .val (.int (4 : Int32)), .val (.ref w_FORK)]) rfl ?_
    show Steps p.tables e below (T14.setTop (mkF m 37 #[.val (.ref xu), .val (.ref b1), .val (.int (6 : Int32)), .val (.int (4 : Int32)), .val (.ref w_FORK)] [])) _
    refine XS.goto X14.here hx rfl (pc0 := 37) (pc' := 9) rfl (hb hby d7_37) (by decide) (by decide) ?_
    show Steps p.tables e below (T14.setTop (mkF m 9 #[.val (.ref xu), .val (.ref b1), .val (.int (6 : Int32)), .val (.int (4 : Int32)), .val (.ref w_FORK)] [])) _
    refine XS.iloadN X14.here hx rfl (hb hby d7_9) rfl ?_
    show Steps p.tables e below (T14.setTop (mkF m 10 #[.val (.ref xu), .val (.ref b1), .val (.int (6 : Int32)), .val (.int (4 : Int32)), .val (.ref w_FORK)] [(.int (4 : Int32))])) _
    refine XS.iloadN X14.here hx rfl (hb hby d7_10) rfl ?_
    show Steps p.tables e below (T14.setTop (mkF m 11 #[.val (.ref xu), .val (.ref b1), .val (.int (6 : Int32)), .val (.int (4 : Int32)), .val (.ref w_FORK)] [(.int (6 : Int32)), (.int (4 : Int32))])) _
    refine XS.icmpNo X14.here hx rfl (hb hby d7_11) rfl (tlt (by decide : (4 : Int32) < (6 : Int32))).2.1 ?_
    show Steps p.tables e below (T14.setTop (mkF m 14 #[.val (.ref xu), .val (.ref b1), .val (.int (6 : Int32)), .val (.int (4 : Int32)), .val (.ref w_FORK)] [])) _
    refine XS.aloadN X14.here hx rfl (hb hby d7_14) rfl rfl ?_
    show Steps p.tables e below (T14.setTop (mkF m 15 #[.val (.ref xu), .val (.ref b1), .val (.int (6 : Int32)), .val (.int (4 : Int32)), .val (.ref w_FORK)] [(.ref b1)])) _
    refine XS.iloadN X14.here hx rfl (hb hby d7_15) rfl ?_
    show Steps p.tables e below (T14.setTop (mkF m 16 #[.val (.ref xu), .val (.ref b1), .val (.int (6 : Int32)), .val (.int (4 : Int32)), .val (.ref w_FORK)] [(.int (4 : Int32)), (.ref b1)])) _
    refine X14.aaload hx (j := (4 : Int32)) (v := (.ref w_JOIN)) (by rw [e14]; exact Ar15.1) (State.isArrayOf_alike hZ.alike Ar15.2.1) rfl Ar15.2.2 (inb_of S15 ⟨by decide, by decide⟩) (show cl15.slots[((4 : Int32)).toNatClampNeg]? = some (.ref w_JOIN) from H15 4 (by rw [S15]; decide)) (g := (mkF m 16 #[.val (.ref xu), .val (.ref b1), .val (.int (6 : Int32)), .val (.int (4 : Int32)), .val (.ref w_FORK)] [(.int (4 : Int32)), (.ref b1)])) rfl rfl (hb hby d7_16) _ ?_
    show Steps p.tables e below (T14.setTop (mkF m 17 #[.val (.ref xu), .val (.ref b1), .val (.int (6 : Int32)), .val (.int (4 : Int32)), .val (.ref w_FORK)] [(.ref w_JOIN)])) _
    refine XS.astore X14.here hx rfl (hb hby d7_17) rfl rfl (l' := #[.val (.ref xu), .val (.ref b1), .val (.int (6 : Int32)), .val (.int (4 : Int32)), .val (.ref w_JOIN)]) rfl ?_
    show Steps p.tables e below (T14.setTop (mkF m 19 #[.val (.ref xu), .val (.ref b1), .val (.int (6 : Int32)), .val (.int (4 : Int32)), .val (.ref w_JOIN)] [])) _
    refine XS.aload X14.here hx rfl (hb hby d7_19) rfl rfl ?_
    show Steps p.tables e below (T14.setTop (mkF m 21 #[.val (.ref xu), .val (.ref b1), .val (.int (6 : Int32)), .val (.int (4 : Int32)), .val (.ref w_JOIN)] [(.ref w_JOIN)])) _
    refine st16 _ ?_
    show Steps p.tables e below (T16.setTop (mkF m 24 #[.val (.ref xu), .val (.ref b1), .val (.int (6 : Int32)), .val (.int (4 : Int32)), .val (.ref w_JOIN)] [(.ref s4u)])) _
    refine XS.aloadN X16.here hx rfl (hb hby d7_24) rfl rfl ?_
    show Steps p.tables e below (T16.setTop (mkF m 25 #[.val (.ref xu), .val (.ref b1), .val (.int (6 : Int32)), .val (.int (4 : Int32)), .val (.ref w_JOIN)] [(.ref xu), (.ref s4u)])) _
    refine st17.trans ?_
    show Steps p.tables e below (T17.setTop (mkF m 28 #[.val (.ref xu), .val (.ref b1), .val (.int (6 : Int32)), .val (.int (4 : Int32)), .val (.ref w_JOIN)] [(.int (1 : Int32))])) _
    refine XS.ifNo X17.here hx rfl (hb hby d7_28) rfl ((if0 _ _).trans (feq (by decide : ¬ ((1 : Int32) = (0 : Int32)))).1) ?_
    show Steps p.tables e below (T17.setTop (mkF m 31 #[.val (.ref xu), .val (.ref b1), .val (.int (6 : Int32)), .val (.int (4 : Int32)), .val (.ref w_JOIN)] [])) _
    refine XS.aload X17.here hx rfl (hb hby d7_31) rfl rfl ?_
    show Steps p.tables e below (T17.setTop (mkF m 33 #[.val (.ref xu), .val (.ref b1), .val (.int (6 : Int32)), .val (.int (4 : Int32)), .val (.ref w_JOIN)] [(.ref w_JOIN)])) _
    jvm_step X17.here [X17.here.top, hx, (hb hby d7_33), X17.method', Bd.returns, Value.isRef, FieldType.isReference]
    first | (intro acts; rw [hr _ acts rfl rfl rfl]) | rw [hr _ _ rfl rfl rfl]
    exact Steps.refl _
  · show Q_rmF4 Z xu xt xk wV kV w_START w_TASK w_WAIT w_FORK w_JOIN w_SUCCESS s0u s0t s0k s1u s1t s1k s2u s2t s2k s3u s3t s3k s4u s4t s4k s5u s5t s5k zc h0 n0 _ T17.heap _
    rw [e17]
    exact ⟨rfl, N17, own_keep_ext K1⟩
theorem pn_rmF5 : plainName "com/example/nevermind/nevermind/graphs/NodeType" = true := by first | (simp [plainName, overriddenIn]; done) | decide +kernel
theorem pd_rmF5_0 : parseMethodDescriptor "()[Lcom/example/nevermind/nevermind/graphs/NodeType;" = some ⟨[], some (.array (.object "com/example/nevermind/nevermind/graphs/NodeType"))⟩ := by decide +kernel
theorem pd_rmF5_1 : parseMethodDescriptor "(Ljava/lang/Object;)Z" = some ⟨[(.object "java/lang/Object")], some .boolean⟩ := by decide +kernel
theorem ef_rmF5 (m : MethodId) (xu : Addr) : entryFrame m #[(.ref xu)] 5 = mkF m 0 #[.val (.ref xu), .unset, .unset, .unset, .unset] [] := by first | (simp [entryFrame, mkF, argsToLocals, Value.category]; done) | rfl
def Q_rmF5 (Z : State) (xu : Addr) (xt : Addr) (xk : ClassId) (wV : Addr) (kV : ClassId) (w_START : Addr) (w_TASK : Addr) (w_WAIT : Addr) (w_FORK : Addr) (w_JOIN : Addr) (w_SUCCESS : Addr) (s0u : Addr) (s0t : Addr) (s0k : ClassId) (s1u : Addr) (s1t : Addr) (s1k : ClassId) (s2u : Addr) (s2t : Addr) (s2k : ClassId) (s3u : Addr) (s3t : Addr) (s3k : ClassId) (s4u : Addr) (s4t : Addr) (s4k : ClassId) (s5u : Addr) (s5t : Addr) (s5k : ClassId) (zc : Int32) (h0 : Heap) (n0 : Nat) (v : Option Value) (h : Heap) (L : List Loc) : Prop := v = some (.ref w_SUCCESS) ∧ Fr n0 L ∧ Ext h0 h
set_option maxRecDepth 65536 in
set_option maxHeartbeats 40000000 in
theorem rmF5 (l : Launch) (Z : State) (a0 : Array Value) (hw : ∀ d ∈ tables_1, d.before a0 Z = true) (ws : List Jvm.Cond) (xu : Addr) (xt : Addr) (xk : ClassId) (wV : Addr) (kV : ClassId) (w_START : Addr) (w_TASK : Addr) (w_WAIT : Addr) (w_FORK : Addr) (w_JOIN : Addr) (w_SUCCESS : Addr) (s0u : Addr) (s0t : Addr) (s0k : ClassId) (s1u : Addr) (s1t : Addr) (s1k : ClassId) (s2u : Addr) (s2t : Addr) (s2k : ClassId) (s3u : Addr) (s3t : Addr) (s3k : ClassId) (s4u : Addr) (s4t : Addr) (s4k : ClassId) (s5u : Addr) (s5t : Addr) (s5k : ClassId) (zc : Int32) (h0 : Heap) (n0 : Nat) (Z0 : n0 ≤ h0.size) (xE : Exa Z h0 xu "java/lang/String") (xV : Fld Z h0 xu "java/lang/String" "value" "[B" (.ref xt)) (xC : Fld Z h0 xu "java/lang/String" "coder" "B" (.int (0 : Int32))) (xK : Arv Z h0 xt xk .byte (7 : Int32) (cs5.map Value.int) (.int 0)) (S_V : Sta Z h0 "com/example/nevermind/nevermind/graphs/NodeType" "$VALUES" "[Lcom/example/nevermind/nevermind/graphs/NodeType;" (.ref wV)) (V_V : Arv Z h0 wV kV (.object "com/example/nevermind/nevermind/graphs/NodeType") (6 : Int32) [.ref w_START, .ref w_TASK, .ref w_WAIT, .ref w_FORK, .ref w_JOIN, .ref w_SUCCESS] .null) (E_V : Exa Z h0 wV "[Lcom/example/nevermind/nevermind/graphs/NodeType;") (s0F : Fld Z h0 w_START "com/example/nevermind/nevermind/graphs/NodeType" "wireName" "Ljava/lang/String;" (.ref s0u)) (s0E : Exa Z h0 s0u "java/lang/String") (s0V : Fld Z h0 s0u "java/lang/String" "value" "[B" (.ref s0t)) (s0C : Fld Z h0 s0u "java/lang/String" "coder" "B" (.int (0 : Int32))) (s0K : Arv Z h0 s0t s0k .byte (5 : Int32) (cs0.map Value.int) (.int 0)) (s1F : Fld Z h0 w_TASK "com/example/nevermind/nevermind/graphs/NodeType" "wireName" "Ljava/lang/String;" (.ref s1u)) (s1E : Exa Z h0 s1u "java/lang/String") (s1V : Fld Z h0 s1u "java/lang/String" "value" "[B" (.ref s1t)) (s1C : Fld Z h0 s1u "java/lang/String" "coder" "B" (.int (0 : Int32))) (s1K : Arv Z h0 s1t s1k .byte (4 : Int32) (cs1.map Value.int) (.int 0)) (s2F : Fld Z h0 w_WAIT "com/example/nevermind/nevermind/graphs/NodeType" "wireName" "Ljava/lang/String;" (.ref s2u)) (s2E : Exa Z h0 s2u "java/lang/String") (s2V : Fld Z h0 s2u "java/lang/String" "value" "[B" (.ref s2t)) (s2C : Fld Z h0 s2u "java/lang/String" "coder" "B" (.int (0 : Int32))) (s2K : Arv Z h0 s2t s2k .byte (4 : Int32) (cs2.map Value.int) (.int 0)) (s3F : Fld Z h0 w_FORK "com/example/nevermind/nevermind/graphs/NodeType" "wireName" "Ljava/lang/String;" (.ref s3u)) (s3E : Exa Z h0 s3u "java/lang/String") (s3V : Fld Z h0 s3u "java/lang/String" "value" "[B" (.ref s3t)) (s3C : Fld Z h0 s3u "java/lang/String" "coder" "B" (.int (0 : Int32))) (s3K : Arv Z h0 s3t s3k .byte (4 : Int32) (cs3.map Value.int) (.int 0)) (s4F : Fld Z h0 w_JOIN "com/example/nevermind/nevermind/graphs/NodeType" "wireName" "Ljava/lang/String;" (.ref s4u)) (s4E : Exa Z h0 s4u "java/lang/String") (s4V : Fld Z h0 s4u "java/lang/String" "value" "[B" (.ref s4t)) (s4C : Fld Z h0 s4u "java/lang/String" "coder" "B" (.int (0 : Int32))) (s4K : Arv Z h0 s4t s4k .byte (4 : Int32) (cs4.map Value.int) (.int 0)) (s5F : Fld Z h0 w_SUCCESS "com/example/nevermind/nevermind/graphs/NodeType" "wireName" "Ljava/lang/String;" (.ref s5u)) (s5E : Exa Z h0 s5u "java/lang/String") (s5V : Fld Z h0 s5u "java/lang/String" "value" "[B" (.ref s5t)) (s5C : Fld Z h0 s5u "java/lang/String" "coder" "B" (.int (0 : Int32))) (s5K : Arv Z h0 s5t s5k .byte (7 : Int32) (cs5.map Value.int) (.int 0)) (S_C : Sta Z h0 "java/lang/String" "COMPACT_STRINGS" "Z" (.int zc)) (hzc : ¬ zc = 0) :
    MetFree l (⟨"com/example/nevermind/nevermind/graphs/NodeType", "fromWireName", "(Ljava/lang/String;)Lcom/example/nevermind/nevermind/graphs/NodeType;"⟩ : MethodName) (head1 (Jvm.Cond.code (⟨"com/example/nevermind/nevermind/graphs/NodeType", "fromWireName", "(Ljava/lang/String;)Lcom/example/nevermind/nevermind/graphs/NodeType;"⟩ : MethodName) prog_9_method_5_code 5 (some (.object "com/example/nevermind/nevermind/graphs/NodeType")) :: ws) ({ frames := 2, cells := 1, slots := 6, locals := 28 } : Room)) (fun a U => a = #[(.ref xu)] ∧ Z.Warmed39 U.vm ∧ U.heap = h0) (fun _ _ _ _ _ => True) (fun _ U o U' => ∃ v L, o = .returned v ∧ Q_rmF5 Z xu xt xk wV kV w_START w_TASK w_WAIT w_FORK w_JOIN w_SUCCESS s0u s0t s0k s1u s1t s1k s2u s2t s2k s3u s3t s3k s4u s4t s4k s5u s5t s5k zc h0 n0 v U'.heap L ∧ FrameEnd U o U' L ({ frames := 2, cells := 1, slots := 6, locals := 28 } : Room).cells ({ frames := 2, cells := 1, slots := 6, locals := 28 } : Room).slots) := by
  refine MetFree.of_bodySF (plainFor_of_name pn_rmF5) hisR ?_
  intro p e s m args below meth c s₁ Bd hml0 hP hK
  obtain ⟨rfl, hZ, hh⟩ := hP
  have hx := Bd.exec
  have hby := Bd.bytes
  have hml : c.maxLocals = 5 := hml0
  have hown : s.vm.findClass "com/example/nevermind/nevermind/graphs/NodeType" = some m.cls := findClass_of_methodNamed Bd.named
  have hnm := (name_of_methodNamed Bd.named Bd.method).1
  have X0 : Stand p l e ({ frames := 2, cells := 1, slots := 6, locals := 28 } : Room) s m #[(.ref xu)] below meth c s₁ [] 0 0 := Stand.of_body Bd
  have e0 : s₁.heap = h0 := by rw [← hh, Bd.state]; rfl
  have N0 := Fr.nil n0
  have pre0 : ∀ t, Steps p.tables e below (s₁.setTop (mkF m 0 #[.val (.ref xu), .unset, .unset, .unset, .unset] [])) t → Steps p.tables e below (s₁.setTop (entryFrame m #[(.ref xu)] 5)) t := fun t k => castTop (ef_rmF5 m xu) k
  have hwsE : ∀ d ∈ StrChars.Road.wordsEq, d.before a0 Z = true := fun d hd => hw d ((by decide +kernel : ∀ d ∈ StrChars.Road.wordsEq, d ∈ tables_1) d hd)
  obtain ⟨_, _, ⟨T1, L1, k1, n1⟩, -, X1, ⟨Lc1, hQ1, l1, y1, z1⟩, st1⟩ := Jvm.LawKit.callS X0 hx (y := (⟨"com/example/nevermind/nevermind/graphs/NodeType", "values", "()[Lcom/example/nevermind/nevermind/graphs/NodeType;"⟩ : MethodName)) hown (mvT hZ (hw _ (List.mem_of_getElem? (i := 37) rfl))) (mvT hZ (hw _ (List.mem_of_getElem? (i := 38) rfl))) (mvT hZ (hw _ (List.mem_of_getElem? (i := 3) rfl))) (mvT hZ (hw _ (List.mem_of_getElem? (i := 39) rfl))) (by decide) (backOf (W := 0) (rmV l Z a0 hw [] wV kV w_START w_TASK w_WAIT w_FORK w_JOIN w_SUCCESS h0 n0 Z0 S_V V_V E_V) hZ (hw _ (List.mem_of_getElem? (i := 39) rfl)) (hw _ (List.mem_of_getElem? (i := 3) rfl)) (by decide) (by decide)) (g := (mkF m 0 #[.val (.ref xu), .unset, .unset, .unset, .unset] [])) rfl (by rw [hml]; rfl) (argsL := []) (rest := []) (lenOf pd_rmF5_0 rfl) rfl (by show 2 * 0 + _ ≤ _; exact Nat.le_of_eq rfl) (hb hby d7_0) (fun _ _ => ⟨rfl, e0, (by decide : 0 + 1 ≤ _), (by decide : 0 + 6 ≤ _)⟩)
  dsimp only [Pt.U, Pt.locs, Pt.cells, Pt.slots] at X1 l1 y1 z1 st1 hQ1
  subst l1 y1 z1
  obtain ⟨b1, rfl, N1q, E1q, V1q⟩ := hQ1
  have N1 := Fr.app N0 N1q
  have K1 : Keep h0 T1.heap [] := ((Keep.refl h0 [])).ext E1q
  obtain ⟨cl2, Ar2, q2, S2, N2_, H2, G2⟩ := id V1q
  obtain ⟨cl3, Ar3, q3, S3, N3_, H3, G3⟩ := id V1q
  obtain ⟨T4, X4, e4, st4⟩ := getF X1 hx hZ hown (host := "") (Or.inl (hw _ (List.mem_of_getElem? (i := 57) rfl))) Via.refl rfl (Fld.ext E1q s0F) (g := (mkF m 21 #[.val (.ref xu), .val (.ref b1), .val (.int (6 : Int32)), .val (.int (0 : Int32)), .val (.ref w_START)] [(.ref w_START)])) rfl rfl (hb hby d7_21)
  obtain ⟨cq5, kq5, q5a, q5b, q5c⟩ := isOf hZ e4 (Exa.ext E1q s0E)
  obtain ⟨_, _, ⟨T5, L5, k5, n5⟩, -, X5, ⟨Lc5, hQ5, l5, y5, z5⟩, st5⟩ := X4.virtualBack hx (y := (⟨"java/lang/String", "equals", "(Ljava/lang/Object;)Z"⟩ : MethodName)) (z := (⟨"java/lang/String", "equals", "(Ljava/lang/Object;)Z"⟩ : MethodName)) hown (mvT hZ (hw _ (List.mem_of_getElem? (i := 59) rfl))) (mvT hZ (hw _ (List.mem_of_getElem? (i := 60) rfl))) (notFace_of_selects (args := #[]) (mvT hZ (hw _ (List.mem_of_getElem? (i := 62) rfl)))) (mvT hZ (hw _ (List.mem_of_getElem? (i := 62) rfl))) (mvT hZ (hw _ (List.mem_of_getElem? (i := 61) rfl))) (by decide) (StrChars.Road.eqW (W := 0) hZ hwsE (kI := 4) (hw _ (List.mem_of_getElem? (i := 6) rfl)) (Exa.ext E1q s0E) (Fld.ext E1q s0V) (Fld.ext E1q s0C) (s0K.ext E1q) own_cod0 own_b0 (by decide) (Exa.ext E1q xE) (Fld.ext E1q xV) (Fld.ext E1q xC) (xK.ext E1q) own_cod5 own_b5 (by decide) (Sta.ext E1q S_C) hzc (by decide) (by decide)) q5a q5c (g := (mkF m 25 #[.val (.ref xu), .val (.ref b1), .val (.int (6 : Int32)), .val (.int (0 : Int32)), .val (.ref w_START)] [(.ref xu), (.ref s0u)])) rfl (by rw [hml]; rfl) (Steps.refl _) (argsL := [(.ref xu)]) (rest := []) (lenOf pd_rmF5_1 rfl) rfl (by show 2 * 0 + _ ≤ _; exact Nat.le_of_eq rfl) (hb hby d7_25) (fun _ _ => ⟨rfl, e4, (by decide : 1 + 0 ≤ _), (by decide : 6 + 0 ≤ _)⟩)
  dsimp only [Pt.U, Pt.locs, Pt.cells, Pt.slots] at X5 l5 y5 z5 st5 hQ5
  subst l5 y5 z5
  rcases hQ5 with ⟨⟨hv5, hd5⟩ | ⟨hv5, hd5⟩, hl5, e5⟩
  · exact absurd hd5 (by decide)
  subst hv5 hl5
  have N5 := Fr.app N1 (Fr.nil n0)
  obtain ⟨cl6, Ar6, q6, S6, N6_, H6, G6⟩ := id V1q
  obtain ⟨T7, X7, e7, st7⟩ := getF X5 hx hZ hown (host := "") (Or.inl (hw _ (List.mem_of_getElem? (i := 57) rfl))) Via.refl e5 (Fld.ext E1q s1F) (g := (mkF m 21 #[.val (.ref xu), .val (.ref b1), .val (.int (6 : Int32)), .val (.int (1 : Int32)), .val (.ref w_TASK)] [(.ref w_TASK)])) rfl rfl (hb hby d7_21)
  obtain ⟨cq8, kq8, q8a, q8b, q8c⟩ := isOf hZ e7 (Exa.ext E1q s1E)
  obtain ⟨_, _, ⟨T8, L8, k8, n8⟩, -, X8, ⟨Lc8, hQ8, l8, y8, z8⟩, st8⟩ := X7.virtualBack hx (y := (⟨"java/lang/String", "equals", "(Ljava/lang/Object;)Z"⟩ : MethodName)) (z := (⟨"java/lang/String", "equals", "(Ljava/lang/Object;)Z"⟩ : MethodName)) hown (mvT hZ (hw _ (List.mem_of_getElem? (i := 59) rfl))) (mvT hZ (hw _ (List.mem_of_getElem? (i := 60) rfl))) (notFace_of_selects (args := #[]) (mvT hZ (hw _ (List.mem_of_getElem? (i := 62) rfl)))) (mvT hZ (hw _ (List.mem_of_getElem? (i := 62) rfl))) (mvT hZ (hw _ (List.mem_of_getElem? (i := 61) rfl))) (by decide) (StrChars.Road.eqW (W := 0) hZ hwsE (kI := 4) (hw _ (List.mem_of_getElem? (i := 6) rfl)) (Exa.ext E1q s1E) (Fld.ext E1q s1V) (Fld.ext E1q s1C) (s1K.ext E1q) own_cod1 own_b1 (by decide) (Exa.ext E1q xE) (Fld.ext E1q xV) (Fld.ext E1q xC) (xK.ext E1q) own_cod5 own_b5 (by decide) (Sta.ext E1q S_C) hzc (by decide) (by decide)) q8a q8c (g := (mkF m 25 #[.val (.ref xu), .val (.ref b1), .val (.int (6 : Int32)), .val (.int (1 : Int32)), .val (.ref w_TASK)] [(.ref xu), (.ref s1u)])) rfl (by rw [hml]; rfl) (Steps.refl _) (argsL := [(.ref xu)]) (rest := []) (lenOf pd_rmF5_1 rfl) rfl (by show 2 * 0 + _ ≤ _; exact Nat.le_of_eq rfl) (hb hby d7_25) (fun _ _ => ⟨rfl, e7, (by decide : 1 + 0 ≤ _), (by decide : 6 + 0 ≤ _)⟩)
  dsimp only [Pt.U, Pt.locs, Pt.cells, Pt.slots] at X8 l8 y8 z8 st8 hQ8
  subst l8 y8 z8
  rcases hQ8 with ⟨⟨hv8, hd8⟩ | ⟨hv8, hd8⟩, hl8, e8⟩
  · exact absurd hd8 (by decide)
  subst hv8 hl8
  have N8 := Fr.app N5 (Fr.nil n0)
  obtain ⟨cl9, Ar9, q9, S9, N9_, H9, G9⟩ := id V1q
  obtain ⟨T10, X10, e10, st10⟩ := getF X8 hx hZ hown (host := "") (Or.inl (hw _ (List.mem_of_getElem? (i := 57) rfl))) Via.refl e8 (Fld.ext E1q s2F) (g := (mkF m 21 #[.val (.ref xu), .val (.ref b1), .val (.int (6 : Int32)), .val (.int (2 : Int32)), .val (.ref w_WAIT)] [(.ref w_WAIT)])) rfl rfl (hb hby d7_21)
  obtain ⟨cq11, kq11, q11a, q11b, q11c⟩ := isOf hZ e10 (Exa.ext E1q s2E)
  obtain ⟨_, _, ⟨T11, L11, k11, n11⟩, -, X11, ⟨Lc11, hQ11, l11, y11, z11⟩, st11⟩ := X10.virtualBack hx (y := (⟨"java/lang/String", "equals", "(Ljava/lang/Object;)Z"⟩ : MethodName)) (z := (⟨"java/lang/String", "equals", "(Ljava/lang/Object;)Z"⟩ : MethodName)) hown (mvT hZ (hw _ (List.mem_of_getElem? (i := 59) rfl))) (mvT hZ (hw _ (List.mem_of_getElem? (i := 60) rfl))) (notFace_of_selects (args := #[]) (mvT hZ (hw _ (List.mem_of_getElem? (i := 62) rfl)))) (mvT hZ (hw _ (List.mem_of_getElem? (i := 62) rfl))) (mvT hZ (hw _ (List.mem_of_getElem? (i := 61) rfl))) (by decide) (StrChars.Road.eqW (W := 0) hZ hwsE (kI := 4) (hw _ (List.mem_of_getElem? (i := 6) rfl)) (Exa.ext E1q s2E) (Fld.ext E1q s2V) (Fld.ext E1q s2C) (s2K.ext E1q) own_cod2 own_b2 (by decide) (Exa.ext E1q xE) (Fld.ext E1q xV) (Fld.ext E1q xC) (xK.ext E1q) own_cod5 own_b5 (by decide) (Sta.ext E1q S_C) hzc (by decide) (by decide)) q11a q11c (g := (mkF m 25 #[.val (.ref xu), .val (.ref b1), .val (.int (6 : Int32)), .val (.int (2 : Int32)), .val (.ref w_WAIT)] [(.ref xu), (.ref s2u)])) rfl (by rw [hml]; rfl) (Steps.refl _) (argsL := [(.ref xu)]) (rest := []) (lenOf pd_rmF5_1 rfl) rfl (by show 2 * 0 + _ ≤ _; exact Nat.le_of_eq rfl) (hb hby d7_25) (fun _ _ => ⟨rfl, e10, (by decide : 1 + 0 ≤ _), (by decide : 6 + 0 ≤ _)⟩)
  dsimp only [Pt.U, Pt.locs, Pt.cells, Pt.slots] at X11 l11 y11 z11 st11 hQ11
  subst l11 y11 z11
  rcases hQ11 with ⟨⟨hv11, hd11⟩ | ⟨hv11, hd11⟩, hl11, e11⟩
  · exact absurd hd11 (by decide)
  subst hv11 hl11
  have N11 := Fr.app N8 (Fr.nil n0)
  obtain ⟨cl12, Ar12, q12, S12, N12_, H12, G12⟩ := id V1q
  obtain ⟨T13, X13, e13, st13⟩ := getF X11 hx hZ hown (host := "") (Or.inl (hw _ (List.mem_of_getElem? (i := 57) rfl))) Via.refl e11 (Fld.ext E1q s3F) (g := (mkF m 21 #[.val (.ref xu), .val (.ref b1), .val (.int (6 : Int32)), .val (.int (3 : Int32)), .val (.ref w_FORK)] [(.ref w_FORK)])) rfl rfl (hb hby d7_21)
  obtain ⟨cq14, kq14, q14a, q14b, q14c⟩ := isOf hZ e13 (Exa.ext E1q s3E)
  obtain ⟨_, _, ⟨T14, L14, k14, n14⟩, -, X14, ⟨Lc14, hQ14, l14, y14, z14⟩, st14⟩ := X13.virtualBack hx (y := (⟨"java/lang/String", "equals", "(Ljava/lang/Object;)Z"⟩ : MethodName)) (z := (⟨"java/lang/String", "equals", "(Ljava/lang/Object;)Z"⟩ : MethodName)) hown (mvT hZ (hw _ (List.mem_of_getElem? (i := 59) rfl))) (mvT hZ (hw _ (List.mem_of_getElem? (i := 60) rfl))) (notFace_of_selects (args := #[]) (mvT hZ (hw _ (List.mem_of_getElem? (i := 62) rfl)))) (mvT hZ (hw _ (List.mem_of_getElem? (i := 62) rfl))) (mvT hZ (hw _ (List.mem_of_getElem? (i := 61) rfl))) (by decide) (StrChars.Road.eqW (W := 0) hZ hwsE (kI := 4) (hw _ (List.mem_of_getElem? (i := 6) rfl)) (Exa.ext E1q s3E) (Fld.ext E1q s3V) (Fld.ext E1q s3C) (s3K.ext E1q) own_cod3 own_b3 (by decide) (Exa.ext E1q xE) (Fld.ext E1q xV) (Fld.ext E1q xC) (xK.ext E1q) own_cod5 own_b5 (by decide) (Sta.ext E1q S_C) hzc (by decide) (by decide)) q14a q14c (g := (mkF m 25 #[.val (.ref xu), .val (.ref b1), .val (.int (6 : Int32)), .val (.int (3 : Int32)), .val (.ref w_FORK)] [(.ref xu), (.ref s3u)])) rfl (by rw [hml]; rfl) (Steps.refl _) (argsL := [(.ref xu)]) (rest := []) (lenOf pd_rmF5_1 rfl) rfl (by show 2 * 0 + _ ≤ _; exact Nat.le_of_eq rfl) (hb hby d7_25) (fun _ _ => ⟨rfl, e13, (by decide : 1 + 0 ≤ _), (by decide : 6 + 0 ≤ _)⟩)
  dsimp only [Pt.U, Pt.locs, Pt.cells, Pt.slots] at X14 l14 y14 z14 st14 hQ14
  subst l14 y14 z14
  rcases hQ14 with ⟨⟨hv14, hd14⟩ | ⟨hv14, hd14⟩, hl14, e14⟩
  · exact absurd hd14 (by decide)
  subst hv14 hl14
  have N14 := Fr.app N11 (Fr.nil n0)
  obtain ⟨cl15, Ar15, q15, S15, N15_, H15, G15⟩ := id V1q
  obtain ⟨T16, X16, e16, st16⟩ := getF X14 hx hZ hown (host := "") (Or.inl (hw _ (List.mem_of_getElem? (i := 57) rfl))) Via.refl e14 (Fld.ext E1q s4F) (g := (mkF m 21 #[.val (.ref xu), .val (.ref b1), .val (.int (6 : Int32)), .val (.int (4 : Int32)), .val (.ref w_JOIN)] [(.ref w_JOIN)])) rfl rfl (hb hby d7_21)
  obtain ⟨cq17, kq17, q17a, q17b, q17c⟩ := isOf hZ e16 (Exa.ext E1q s4E)
  obtain ⟨_, _, ⟨T17, L17, k17, n17⟩, -, X17, ⟨Lc17, hQ17, l17, y17, z17⟩, st17⟩ := X16.virtualBack hx (y := (⟨"java/lang/String", "equals", "(Ljava/lang/Object;)Z"⟩ : MethodName)) (z := (⟨"java/lang/String", "equals", "(Ljava/lang/Object;)Z"⟩ : MethodName)) hown (mvT hZ (hw _ (List.mem_of_getElem? (i := 59) rfl))) (mvT hZ (hw _ (List.mem_of_getElem? (i := 60) rfl))) (notFace_of_selects (args := #[]) (mvT hZ (hw _ (List.mem_of_getElem? (i := 62) rfl)))) (mvT hZ (hw _ (List.mem_of_getElem? (i := 62) rfl))) (mvT hZ (hw _ (List.mem_of_getElem? (i := 61) rfl))) (by decide) (StrChars.Road.eqW (W := 0) hZ hwsE (kI := 4) (hw _ (List.mem_of_getElem? (i := 6) rfl)) (Exa.ext E1q s4E) (Fld.ext E1q s4V) (Fld.ext E1q s4C) (s4K.ext E1q) own_cod4 own_b4 (by decide) (Exa.ext E1q xE) (Fld.ext E1q xV) (Fld.ext E1q xC) (xK.ext E1q) own_cod5 own_b5 (by decide) (Sta.ext E1q S_C) hzc (by decide) (by decide)) q17a q17c (g := (mkF m 25 #[.val (.ref xu), .val (.ref b1), .val (.int (6 : Int32)), .val (.int (4 : Int32)), .val (.ref w_JOIN)] [(.ref xu), (.ref s4u)])) rfl (by rw [hml]; rfl) (Steps.refl _) (argsL := [(.ref xu)]) (rest := []) (lenOf pd_rmF5_1 rfl) rfl (by show 2 * 0 + _ ≤ _; exact Nat.le_of_eq rfl) (hb hby d7_25) (fun _ _ => ⟨rfl, e16, (by decide : 1 + 0 ≤ _), (by decide : 6 + 0 ≤ _)⟩)
  dsimp only [Pt.U, Pt.locs, Pt.cells, Pt.slots] at X17 l17 y17 z17 st17 hQ17
  subst l17 y17 z17
  rcases hQ17 with ⟨⟨hv17, hd17⟩ | ⟨hv17, hd17⟩, hl17, e17⟩
  · exact absurd hd17 (by decide)
  subst hv17 hl17
  have N17 := Fr.app N14 (Fr.nil n0)
  obtain ⟨cl18, Ar18, q18, S18, N18_, H18, G18⟩ := id V1q
  obtain ⟨T19, X19, e19, st19⟩ := getF X17 hx hZ hown (host := "") (Or.inl (hw _ (List.mem_of_getElem? (i := 57) rfl))) Via.refl e17 (Fld.ext E1q s5F) (g := (mkF m 21 #[.val (.ref xu), .val (.ref b1), .val (.int (6 : Int32)), .val (.int (5 : Int32)), .val (.ref w_SUCCESS)] [(.ref w_SUCCESS)])) rfl rfl (hb hby d7_21)
  obtain ⟨cq20, kq20, q20a, q20b, q20c⟩ := isOf hZ e19 (Exa.ext E1q s5E)
  obtain ⟨_, _, ⟨T20, L20, k20, n20⟩, -, X20, ⟨Lc20, hQ20, l20, y20, z20⟩, st20⟩ := X19.virtualBack hx (y := (⟨"java/lang/String", "equals", "(Ljava/lang/Object;)Z"⟩ : MethodName)) (z := (⟨"java/lang/String", "equals", "(Ljava/lang/Object;)Z"⟩ : MethodName)) hown (mvT hZ (hw _ (List.mem_of_getElem? (i := 59) rfl))) (mvT hZ (hw _ (List.mem_of_getElem? (i := 60) rfl))) (notFace_of_selects (args := #[]) (mvT hZ (hw _ (List.mem_of_getElem? (i := 62) rfl)))) (mvT hZ (hw _ (List.mem_of_getElem? (i := 62) rfl))) (mvT hZ (hw _ (List.mem_of_getElem? (i := 61) rfl))) (by decide) (StrChars.Road.eqW (W := 0) hZ hwsE (kI := 4) (hw _ (List.mem_of_getElem? (i := 6) rfl)) (Exa.ext E1q s5E) (Fld.ext E1q s5V) (Fld.ext E1q s5C) (s5K.ext E1q) own_cod5 own_b5 (by decide) (Exa.ext E1q xE) (Fld.ext E1q xV) (Fld.ext E1q xC) (xK.ext E1q) own_cod5 own_b5 (by decide) (Sta.ext E1q S_C) hzc (by decide) (by decide)) q20a q20c (g := (mkF m 25 #[.val (.ref xu), .val (.ref b1), .val (.int (6 : Int32)), .val (.int (5 : Int32)), .val (.ref w_SUCCESS)] [(.ref xu), (.ref s5u)])) rfl (by rw [hml]; rfl) (Steps.refl _) (argsL := [(.ref xu)]) (rest := []) (lenOf pd_rmF5_1 rfl) rfl (by show 2 * 0 + _ ≤ _; exact Nat.le_of_eq rfl) (hb hby d7_25) (fun _ _ => ⟨rfl, e19, (by decide : 1 + 0 ≤ _), (by decide : 6 + 0 ≤ _)⟩)
  dsimp only [Pt.U, Pt.locs, Pt.cells, Pt.slots] at X20 l20 y20 z20 st20 hQ20
  subst l20 y20 z20
  rcases hQ20 with ⟨⟨hv20, hd20⟩ | ⟨hv20, hd20⟩, hl20, e20⟩
  rotate_left
  · exact absurd rfl hd20
  subst hv20 hl20
  have N20 := Fr.app N17 (Fr.nil n0)
  obtain ⟨fs, hr, hrun, hended, hW, hsame⟩ := X20.leave (v := some (.ref w_SUCCESS)) (fun h => by rw [Bd.returns] at h; cases h)
  refine ⟨_, _, pre0 _ ?_, hrun, hended, _, _, rfl, ?_, ⟨_, rfl⟩, hW, hsame.mono (by decide) (by decide)⟩
  · show Steps p.tables e below (s₁.setTop (mkF m 0 #[.val (.ref xu), .unset, .unset, .unset, .unset] [])) _
    refine st1 _ ?_
    show Steps p.tables e below (T1.setTop (mkF m 3 #[.val (.ref xu), .unset, .unset, .unset, .unset] [(.ref b1)])) _
    refine XS.astoreN X1.here hx rfl (hb hby d7_3) rfl rfl (l' := #[.val (.ref xu), .val (.ref b1), .unset, .unset, .unset]) rfl ?_
    show Steps p.tables e below (T1.setTop (mkF m 4 #[.val (.ref xu), .val (.ref b1), .unset, .unset, .unset] [])) _
    refine XS.aloadN X1.here hx rfl (hb hby d7_4) rfl rfl ?_
    show Steps p.tables e below (T1.setTop (mkF m 5 #[.val (.ref xu), .val (.ref b1), .unset, .unset, .unset] [(.ref b1)])) _
    refine X1.arraylength hx (Ar2.1) (State.isArrayOf_alike hZ.alike Ar2.2.1) (g := (mkF m 5 #[.val (.ref xu), .val (.ref b1), .unset, .unset, .unset] [(.ref b1)])) rfl rfl (hb hby d7_5) _ ?_
    rw [len_of S2 N2_]
    show Steps p.tables e below (T1.setTop (mkF m 6 #[.val (.ref xu), .val (.ref b1), .unset, .unset, .unset] [(.int (6 : Int32))])) _
    refine XS.istoreN X1.here hx rfl (hb hby d7_6) rfl (l' := #[.val (.ref xu), .val (.ref b1), .val (.int (6 : Int32)), .unset, .unset]) rfl ?_
    show Steps p.tables e below (T1.setTop (mkF m 7 #[.val (.ref xu), .val (.ref b1), .val (.int (6 : Int32)), .unset, .unset] [])) _
    refine XS.iconst X1.here hx rfl (hb hby d7_7) ?_
    show Steps p.tables e below (T1.setTop (mkF m 8 #[.val (.ref xu), .val (.ref b1), .val (.int (6 : Int32)), .unset, .unset] [(.int (0 : Int32))])) _
    refine XS.istoreN X1.here hx rfl (hb hby d7_8) rfl (l' := #[.val (.ref xu), .val (.ref b1), .val (.int (6 : Int32)), .val (.int (0 : Int32)), .unset]) rfl ?_
    show Steps p.tables e below (T1.setTop (mkF m 9 #[.val (.ref xu), .val (.ref b1), .val (.int (6 : Int32)), .val (.int (0 : Int32)), .unset] [])) _
    refine XS.iloadN X1.here hx rfl (hb hby d7_9) rfl ?_
    show Steps p.tables e below (T1.setTop (mkF m 10 #[.val (.ref xu), .val (.ref b1), .val (.int (6 : Int32)), .val (.int (0 : Int32)), .unset] [(.int (0 : Int32))])) _
    refine XS.iloadN X1.here hx rfl (hb hby d7_10) rfl ?_
    show Steps p.tables e below (T1.setTop (mkF m 11 #[.val (.ref xu), .val (.ref b1), .val (.int (6 : Int32)), .val (.int (0 : Int32)), .unset] [(.int (6 : Int32)), (.int (0 : Int32))])) _
    refine XS.icmpNo X1.here hx rfl (hb hby d7_11) rfl (tlt (by decide : (0 : Int32) < (6 : Int32))).2.1 ?_
    show Steps p.tables e below (T1.setTop (mkF m 14 #[.val (.ref xu), .val (.ref b1), .val (.int (6 : Int32)), .val (.int (0 : Int32)), .unset] [])) _
    refine XS.aloadN X1.here hx rfl (hb hby d7_14) rfl rfl ?_
    show Steps p.tables e below (T1.setTop (mkF m 15 #[.val (.ref xu), .val (.ref b1), .val (.int (6 : Int32)), .val (.int (0 : Int32)), .unset] [(.ref b1)])) _
    refine XS.iloadN X1.here hx rfl (hb hby d7_15) rfl ?_
    show Steps p.tables e below (T1.setTop (mkF m 16 #[.val (.ref xu), .val (.ref b1), .val (.int (6 : Int32)), .val (.int (0 : Int32)), .unset] [(.int (0 : Int32)), (.ref b1)])) _
    refine X1.aaload hx (j := (0 : Int32)) (v := (.ref w_START)) (Ar3.1) (State.isArrayOf_alike hZ.alike Ar3.2.1) rfl Ar3.2.2 (inb_of S3 ⟨by decide, by decide⟩) (show cl3.slots[((0 : Int32)).toNatClampNeg]? = some (.ref w_START) from H3 0 (by rw [S3]; decide)) (g := (mkF m 16 #[.val (.ref xu), .val (.ref b1), .val (.int (6 : Int32)), .val (.int (0 : Int32)), .unset] [(.int (0 : Int32)), (.ref b1)])) rfl rfl (hb hby d7_16) _ ?_
    show Steps p.tables e below (T1.setTop (mkF m 17 #[.val (.ref xu), .val (.ref b1), .val (.int (6 : Int32)), .val (.int (0 : Int32)), .unset] [(.ref w_START)])) _
    refine XS.astore X1.here hx rfl (hb hby d7_17) rfl rfl (l' := #[.val (.ref xu), .val (.ref b1), .val (.int (6 : Int32)), .val (.int (0 : Int32)), .val (.ref w_START)]) rfl ?_
    show Steps p.tables e below (T1.setTop (mkF m 19 #[.val (.ref xu), .val (.ref b1), .val (.int (6 : Int32)), .val (.int (0 : Int32)), .val (.ref w_START)] [])) _
    refine XS.aload X1.here hx rfl (hb hby d7_19) rfl rfl ?_
    show Steps p.tables e below (T1.setTop (mkF m 21 #[.val (.ref xu), .val (.ref b1), .val (.int (6 : Int32)), .val (.int (0 : Int32)), .val (.ref w_START)] [(.ref w_START)])) _
    refine st4 _ ?_
    show Steps p.tables e below (T4.setTop (mkF m 24 #[.val (.ref xu), .val (.ref b1), .val (.int (6 : Int32)), .val (.int (0 : Int32)), .val (.ref w_START)] [(.ref s0u)])) _
    refine XS.aloadN X4.here hx rfl (hb hby d7_24) rfl rfl ?_
    show Steps p.tables e below (T4.setTop (mkF m 25 #[.val (.ref xu), .val (.ref b1), .val (.int (6 : Int32)), .val (.int (0 : Int32)), .val (.ref w_START)] [(.ref xu), (.ref s0u)])) _
    refine st5.trans ?_
    show Steps p.tables e below (T5.setTop (mkF m 28 #[.val (.ref xu), .val (.ref b1), .val (.int (6 : Int32)), .val (.int (0 : Int32)), .val (.ref w_START)] [(.int (0 : Int32))])) _
    refine XS.ifYes X5.here hx rfl (pc0 := 28) (pc' := 34) rfl (hb hby d7_28) rfl ((if0 _ _).trans (teq (rfl : (0 : Int32) = (0 : Int32))).1) (by decide) (by decide) ?_
    show Steps p.tables e below (T5.setTop (mkF m 34 #[.val (.ref xu), .val (.ref b1), .val (.int (6 : Int32)), .val (.int (0 : Int32)), .val (.ref w_START)] [])) _
    refine XS.iinc X5.here hx rfl (hb hby d7_34) rfl (l' := #[.val (.ref xu), .val (.ref b1), .val (.int (6 : Int32)), .val (.int (1 : Int32)), .val (.ref w_START)]) rfl ?_
    show Steps p.tables e below (T5.setTop (mkF m 37 #[.val (.ref xu), .val (.ref b1), .val (.int (6 : Int32)), .val (.int (1 : Int32)), .val (.ref w_START)] [])) _
    refine XS.goto X5.here hx rfl (pc0 := 37) (pc' := 9) rfl (hb hby d7_37) (by decide) (by decide) ?_
    show Steps p.tables e below (T5.setTop (mkF m 9 #[.val (.ref xu), .val (.ref b1), .val (.int (6 : Int32)), .val (.int (1 : Int32)), .val (.ref w_START)] [])) _
    refine XS.iloadN X5.here hx rfl (hb hby d7_9) rfl ?_
    show Steps p.tables e below (T5.setTop (mkF m 10 #[.val (.ref xu), .val (.ref b1), .val (.int (6 : Int32)), .val (.int (1 : Int32)), .val (.ref w_START)] [(.int (1 : Int32))])) _
    refine XS.iloadN X5.here hx rfl (hb hby d7_10) rfl ?_
    show Steps p.tables e below (T5.setTop (mkF m 11 #[.val (.ref xu), .val (.ref b1), .val (.int (6 : Int32)), .val (.int (1 : Int32)), .val (.ref w_START)] [(.int (6 : Int32)), (.int (1 : Int32))])) _
    refine XS.icmpNo X5.here hx rfl (hb hby d7_11) rfl (tlt (by decide : (1 : Int32) < (6 : Int32))).2.1 ?_
    show Steps p.tables e below (T5.setTop (mkF m 14 #[.val (.ref xu), .val (.ref b1), .val (.int (6 : Int32)), .val (.int (1 : Int32)), .val (.ref w_START)] [])) _
    refine XS.aloadN X5.here hx rfl (hb hby d7_14) rfl rfl ?_
    show Steps p.tables e below (T5.setTop (mkF m 15 #[.val (.ref xu), .val (.ref b1), .val (.int (6 : Int32)), .val (.int (1 : Int32)), .val (.ref w_START)] [(.ref b1)])) _
    refine XS.iloadN X5.here hx rfl (hb hby d7_15) rfl ?_
    show Steps p.tables e below (T5.setTop (mkF m 16 #[.val (.ref xu), .val (.ref b1), .val (.int (6 : Int32)), .val (.int (1 : Int32)), .val (.ref w_START)] [(.int (1 : Int32)), (.ref b1)])) _
    refine X5.aaload hx (j := (1 : Int32)) (v := (.ref w_TASK)) (by rw [e5]; exact Ar6.1) (State.isArrayOf_alike hZ.alike Ar6.2.1) rfl Ar6.2.2 (inb_of S6 ⟨by decide, by decide⟩) (show cl6.slots[((1 : Int32)).toNatClampNeg]? = some (.ref w_TASK) from H6 1 (by rw [S6]; decide)) (g := (mkF m 16 #[.val (.ref xu), .val (.ref b1), .val (.int (6 : Int32)), .val (.int (1 : Int32)), .val (.ref w_START)] [(.int (1 : Int32)), (.ref b1)])) rfl rfl (hb hby d7_16) _ ?_
    show Steps p.tables e below (T5.setTop (mkF m 17 #[.val (.ref xu), .val (.ref b1), .val (.int (6 : Int32)), .val (.int (1 : Int32)), .val (.ref w_START)] [(.ref w_TASK)])) _
    refine XS.astore X5.here hx rfl (hb hby d7_17) rfl rfl (l' := #[.val (.ref xu), .val (.ref b1), .val (.int (6 : Int32)), .val (.int (1 : Int32)), .val (.ref w_TASK)]) rfl ?_
    show Steps p.tables e below (T5.setTop (mkF m 19 #[.val (.ref xu), .val (.ref b1), .val (.int (6 : Int32)), .val (.int (1 : Int32)), .val (.ref w_TASK)] [])) _
    refine XS.aload X5.here hx rfl (hb hby d7_19) rfl rfl ?_
    show Steps p.tables e below (T5.setTop (mkF m 21 #[.val (.ref xu), .val (.ref b1), .val (.int (6 : Int32)), .val (.int (1 : Int32)), .val (.ref w_TASK)] [(.ref w_TASK)])) _
    refine st7 _ ?_
    show Steps p.tables e below (T7.setTop (mkF m 24 #[.val (.ref xu), .val (.ref b1), .val (.int (6 : Int32)), .val (.int (1 : Int32)), .val (.ref w_TASK)] [(.ref s1u)])) _
    refine XS.aloadN X7.here hx rfl (hb hby d7_24) rfl rfl ?_
    show Steps p.tables e below (T7.setTop (mkF m 25 #[.val (.ref xu), .val (.ref b1), .val (.int (6 : Int32)), .val (.int (1 : Int32)), .val (.ref w_TASK)] [(.ref xu), (.ref s1u)])) _
    refine st8.trans ?_
    show Steps p.tables e below (T8.setTop (mkF m 28 #[.val (.ref xu), .val (.ref b1), .val (.int (6 : Int32)), .val (.int (1 : Int32)), .val (.ref w_TASK)] [(.int (0 : Int32))])) _
    refine XS.ifYes X8.here hx rfl (pc0 := 28) (pc' := 34) rfl (hb hby d7_28) rfl ((if0 _ _).trans (teq (rfl : (0 : Int32) = (0 : Int32))).1) (by decide) (by decide) ?_
    show Steps p.tables e below (T8.setTop (mkF m 34 #[.val (.ref xu), .val (.ref b1), .val (.int (6 : Int32)), .val (.int (1 : Int32)), .val (.ref w_TASK)] [])) _
    refine XS.iinc X8.here hx rfl (hb hby d7_34) rfl (l' := #[.val (.ref xu), .val (.ref b1), .val (.int (6 : Int32)), .val (.int (2 : Int32)), .val (.ref w_TASK)]) rfl ?_
    show Steps p.tables e below (T8.setTop (mkF m 37 #[.val (.ref xu), .val (.ref b1), .val (.int (6 : Int32)), .val (.int (2 : Int32)), .val (.ref w_TASK)] [])) _
    refine XS.goto X8.here hx rfl (pc0 := 37) (pc' := 9) rfl (hb hby d7_37) (by decide) (by decide) ?_
    show Steps p.tables e below (T8.setTop (mkF m 9 #[.val (.ref xu), .val (.ref b1), .val (.int (6 : Int32)), .val (.int (2 : Int32)), .val (.ref w_TASK)] [])) _
    refine XS.iloadN X8.here hx rfl (hb hby d7_9) rfl ?_
    show Steps p.tables e below (T8.setTop (mkF m 10 #[.val (.ref xu), .val (.ref b1), .val (.int (6 : Int32)), .val (.int (2 : Int32)), .val (.ref w_TASK)] [(.int (2 : Int32))])) _
    refine XS.iloadN X8.here hx rfl (hb hby d7_10) rfl ?_
    show Steps p.tables e below (T8.setTop (mkF m 11 #[.val (.ref xu), .val (.ref b1), .val (.int (6 : Int32)), .val (.int (2 : Int32)), .val (.ref w_TASK)] [(.int (6 : Int32)), (.int (2 : Int32))])) _
    refine XS.icmpNo X8.here hx rfl (hb hby d7_11) rfl (tlt (by decide : (2 : Int32) < (6 : Int32))).2.1 ?_
    show Steps p.tables e below (T8.setTop (mkF m 14 #[.val (.ref xu), .val (.ref b1), .val (.int (6 : Int32)), .val (.int (2 : Int32)), .val (.ref w_TASK)] [])) _
    refine XS.aloadN X8.here hx rfl (hb hby d7_14) rfl rfl ?_
    show Steps p.tables e below (T8.setTop (mkF m 15 #[.val (.ref xu), .val (.ref b1), .val (.int (6 : Int32)), .val (.int (2 : Int32)), .val (.ref w_TASK)] [(.ref b1)])) _
    refine XS.iloadN X8.here hx rfl (hb hby d7_15) rfl ?_
    show Steps p.tables e below (T8.setTop (mkF m 16 #[.val (.ref xu), .val (.ref b1), .val (.int (6 : Int32)), .val (.int (2 : Int32)), .val (.ref w_TASK)] [(.int (2 : Int32)), (.ref b1)])) _
    refine X8.aaload hx (j := (2 : Int32)) (v := (.ref w_WAIT)) (by rw [e8]; exact Ar9.1) (State.isArrayOf_alike hZ.alike Ar9.2.1) rfl Ar9.2.2 (inb_of S9 ⟨by decide, by decide⟩) (show cl9.slots[((2 : Int32)).toNatClampNeg]? = some (.ref w_WAIT) from H9 2 (by rw [S9]; decide)) (g := (mkF m 16 #[.val (.ref xu), .val (.ref b1), .val (.int (6 : Int32)), .val (.int (2 : Int32)), .val (.ref w_TASK)] [(.int (2 : Int32)), (.ref b1)])) rfl rfl (hb hby d7_16) _ ?_
    show Steps p.tables e below (T8.setTop (mkF m 17 #[.val (.ref xu), .val (.ref b1), .val (.int (6 : Int32)), .val (.int (2 : Int32)), .val (.ref w_TASK)] [(.ref w_WAIT)])) _
    refine XS.astore X8.here hx rfl (hb hby d7_17) rfl rfl (l' := #[.val (.ref xu), .val (.ref b1), .val (.int (6 : Int32)), .val (.int (2 : Int32)), .val (.ref w_WAIT)]) rfl ?_
    show Steps p.tables e below (T8.setTop (mkF m 19 #[.val (.ref xu), .val (.ref b1), .val (.int (6 : Int32)), .val (.int (2 : Int32)), .val (.ref w_WAIT)] [])) _
    refine XS.aload X8.here hx rfl (hb hby d7_19) rfl rfl ?_
    show Steps p.tables e below (T8.setTop (mkF m 21 #[.val (.ref xu), .val (.ref b1), .val (.int (6 : Int32)), .val (.int (2 : Int32)), .val (.ref w_WAIT)] [(.ref w_WAIT)])) _
    refine st10 _ ?_
    show Steps p.tables e below (T10.setTop (mkF m 24 #[.val (.ref xu), .val (.ref b1), .val (.int (6 : Int32)), .val (.int (2 : Int32)), .val (.ref w_WAIT)] [(.ref s2u)])) _
    refine XS.aloadN X10.here hx rfl (hb hby d7_24) rfl rfl ?_
    show Steps p.tables e below (T10.setTop (mkF m 25 #[.val (.ref xu), .val (.ref b1), .val (.int (6 : Int32)), .val (.int (2 : Int32)), .val (.ref w_WAIT)] [(.ref xu), (.ref s2u)])) _
    refine st11.trans ?_
    show Steps p.tables e below (T11.setTop (mkF m 28 #[.val (.ref xu), .val (.ref b1), .val (.int (6 : Int32)), .val (.int (2 : Int32)), .val (.ref w_WAIT)] [(.int (0 : Int32))])) _
    refine XS.ifYes X11.here hx rfl (pc0 := 28) (pc' := 34) rfl (hb hby d7_28) rfl ((if0 _ _).trans (teq (rfl : (0 : Int32) = (0 : Int32))).1) (by decide) (by decide) ?_
    show Steps p.tables e below (T11.setTop (mkF m 34 #[.val (.ref xu), .val (.ref b1), .val (.int (6 : Int32)), .val (.int (2 : Int32)), .val (.ref w_WAIT)] [])) _
    refine XS.iinc X11.here hx rfl (hb hby d7_34) rfl (l' := #[.val (.ref xu), .val (.ref b1), .val (.int (6 : Int32)), .val (.int (3 : Int32)), .val (.ref w_WAIT)]) rfl ?_
    show Steps p.tables e below (T11.setTop (mkF m 37 #[.val (.ref xu), .val (.ref b1), .val (.int (6 : Int32)), .val (.int (3 : Int32)), .val (.ref w_WAIT)] [])) _
    refine XS.goto X11.here hx rfl (pc0 := 37) (pc' := 9) rfl (hb hby d7_37) (by decide) (by decide) ?_
    show Steps p.tables e below (T11.setTop (mkF m 9 #[.val (.ref xu), .val (.ref b1), .val (.int (6 : Int32)), .val (.int (3 : Int32)), .val (.ref w_WAIT)] [])) _
    refine XS.iloadN X11.here hx rfl (hb hby d7_9) rfl ?_
    show Steps p.tables e below (T11.setTop (mkF m 10 #[.val (.ref xu), .val (.ref b1), .val (.int (6 : Int32)), .val (.int (3 : Int32)), .val (.ref w_WAIT)] [(.int (3 : Int32))])) _
    refine XS.iloadN X11.here hx rfl (hb hby d7_10) rfl ?_
    show Steps p.tables e below (T11.setTop (mkF m 11 #[.val (.ref xu), .val (.ref b1), .val (.int (6 : Int32)), .val (.int (3 : Int32)), .val (.ref w_WAIT)] [(.int (6 : Int32)), (.int (3 : Int32))])) _
    refine XS.icmpNo X11.here hx rfl (hb hby d7_11) rfl (tlt (by decide : (3 : Int32) < (6 : Int32))).2.1 ?_
    show Steps p.tables e below (T11.setTop (mkF m 14 #[.val (.ref xu), .val (.ref b1), .val (.int (6 : Int32)), .val (.int (3 : Int32)), .val (.ref w_WAIT)] [])) _
    refine XS.aloadN X11.here hx rfl (hb hby d7_14) rfl rfl ?_
    show Steps p.tables e below (T11.setTop (mkF m 15 #[.val (.ref xu), .val (.ref b1), .val (.int (6 : Int32)), .val (.int (3 : Int32)), .val (.ref w_WAIT)] [(.ref b1)])) _
    refine XS.iloadN X11.here hx rfl (hb hby d7_15) rfl ?_
    show Steps p.tables e below (T11.setTop (mkF m 16 #[.val (.ref xu), .val (.ref b1), .val (.int (6 : Int32)), .val (.int (3 : Int32)), .val (.ref w_WAIT)] [(.int (3 : Int32)), (.ref b1)])) _
    refine X11.aaload hx (j := (3 : Int32)) (v := (.ref w_FORK)) (by rw [e11]; exact Ar12.1) (State.isArrayOf_alike hZ.alike Ar12.2.1) rfl Ar12.2.2 (inb_of S12 ⟨by decide, by decide⟩) (show cl12.slots[((3 : Int32)).toNatClampNeg]? = some (.ref w_FORK) from H12 3 (by rw [S12]; decide)) (g := (mkF m 16 #[.val (.ref xu), .val (.ref b1), .val (.int (6 : Int32)), .val (.int (3 : Int32)), .val (.ref w_WAIT)] [(.int (3 : Int32)), (.ref b1)])) rfl rfl (hb hby d7_16) _ ?_
    show Steps p.tables e below (T11.setTop (mkF m 17 #[.val (.ref xu), .val (.ref b1), .val (.int (6 : Int32)), .val (.int (3 : Int32)), .val (.ref w_WAIT)] [(.ref w_FORK)])) _
    refine XS.astore X11.here hx rfl (hb hby d7_17) rfl rfl (l' := #[.val (.ref xu), .val (.ref b1), .val (.int (6 : Int32)), .val (.int (3 : Int32)), .val (.ref w_FORK)]) rfl ?_
    show Steps p.tables e below (T11.setTop (mkF m 19 #[.val (.ref xu), .val (.ref b1), .val (.int (6 : Int32)), .val (.int (3 : Int32)), .val (.ref w_FORK)] [])) _
    refine XS.aload X11.here hx rfl (hb hby d7_19) rfl rfl ?_
    show Steps p.tables e below (T11.setTop (mkF m 21 #[.val (.ref xu), .val (.ref b1), .val (.int (6 : Int32)), .val (.int (3 : Int32)), .val (.ref w_FORK)] [(.ref w_FORK)])) _
    refine st13 _ ?_
    show Steps p.tables e below (T13.setTop (mkF m 24 #[.val (.ref xu), .val (.ref b1), .val (.int (6 : Int32)), .val (.int (3 : Int32)), .val (.ref w_FORK)] [(.ref s3u)])) _
    refine XS.aloadN X13.here hx rfl (hb hby d7_24) rfl rfl ?_
    show Steps p.tables e below (T13.setTop (mkF m 25 #[.val (.ref xu), .val (.ref b1), .val (.int (6 : Int32)), .val (.int (3 : Int32)), .val (.ref w_FORK)] [(.ref xu), (.ref s3u)])) _
    refine st14.trans ?_
    show Steps p.tables e below (T14.setTop (mkF m 28 #[.val (.ref xu), .val (.ref b1), .val (.int (6 : Int32)), .val (.int (3 : Int32)), .val (.ref w_FORK)] [(.int (0 : Int32))])) _
    refine XS.ifYes X14.here hx rfl (pc0 := 28) (pc' := 34) rfl (hb hby d7_28) rfl ((if0 _ _).trans (teq (rfl : (0 : Int32) = (0 : Int32))).1) (by decide) (by decide) ?_
    show Steps p.tables e below (T14.setTop (mkF m 34 #[.val (.ref xu), .val (.ref b1), .val (.int (6 : Int32)), .val (.int (3 : Int32)), .val (.ref w_FORK)] [])) _
    refine XS.iinc X14.here hx rfl (hb hby d7_34) rfl (l' := #[.val (.ref xu), .val (.ref b1), .val (.int (6 : Int32)), .val (.int (4 : Int32)), .val (.ref w_FORK)]) rfl ?_
    show Steps p.tables e below (T14.setTop (mkF m 37 #[.val (.ref xu), .val (.ref b1), .val (.int (6 : Int32)), .val (.int (4 : Int32)), .val (.ref w_FORK)] [])) _
    refine XS.goto X14.here hx rfl (pc0 := 37) (pc' := 9) rfl (hb hby d7_37) (by decide) (by decide) ?_
    show Steps p.tables e below (T14.setTop (mkF m 9 #[.val (.ref xu), .val (.ref b1), .val (.int (6 : Int32)), .val (.int (4 : Int32)), .val (.ref w_FORK)] [])) _
    refine XS.iloadN X14.here hx rfl (hb hby d7_9) rfl ?_
    show Steps p.tables e below (T14.setTop (mkF m 10 #[.val (.ref xu), .val (.ref b1), .val (.int (6 : Int32)), .val (.int (4 : Int32)), .val (.ref w_FORK)] [(.int (4 : Int32))])) _
    refine XS.iloadN X14.here hx rfl (hb hby d7_10) rfl ?_
    show Steps p.tables e below (T14.setTop (mkF m 11 #[.val (.ref xu), .val (.ref b1), .val (.int (6 : Int32)), .val (.int (4 : Int32)), .val (.ref w_FORK)] [(.int (6 : Int32)), (.int (4 : Int32))])) _
    refine XS.icmpNo X14.here hx rfl (hb hby d7_11) rfl (tlt (by decide : (4 : Int32) < (6 : Int32))).2.1 ?_
    show Steps p.tables e below (T14.setTop (mkF m 14 #[.val (.ref xu), .val (.ref b1), .val (.int (6 : Int32)), .val (.int (4 : Int32)), .val (.ref w_FORK)] [])) _
    refine XS.aloadN X14.here hx rfl (hb hby d7_14) rfl rfl ?_
    show Steps p.tables e below (T14.setTop (mkF m 15 #[.val (.ref xu), .val (.ref b1), .val (.int (6 : Int32)), .val (.int (4 : Int32)), .val (.ref w_FORK)] [(.ref b1)])) _
    refine XS.iloadN X14.here hx rfl (hb hby d7_15) rfl ?_
    show Steps p.tables e below (T14.setTop (mkF m 16 #[.val (.ref xu), .val (.ref b1), .val (.int (6 : Int32)), .val (.int (4 : Int32)), .val (.ref w_FORK)] [(.int (4 : Int32)), (.ref b1)])) _
    refine X14.aaload hx (j := (4 : Int32)) (v := (.ref w_JOIN)) (by rw [e14]; exact Ar15.1) (State.isArrayOf_alike hZ.alike Ar15.2.1) rfl Ar15.2.2 (inb_of S15 ⟨by decide, by decide⟩) (show cl15.slots[((4 : Int32)).toNatClampNeg]? = some (.ref w_JOIN) from H15 4 (by rw [S15]; decide)) (g := (mkF m 16 #[.val (.ref xu), .val (.ref b1), .val (.int (6 : Int32)), .val (.int (4 : Int32)), .val (.ref w_FORK)] [(.int (4 : Int32)), (.ref b1)])) rfl rfl (hb hby d7_16) _ ?_
    show Steps p.tables e below (T14.setTop (mkF m 17 #[.val (.ref xu), .val (.ref b1), .val (.int (6 : Int32)), .val (.int (4 : Int32)), .val (.ref w_FORK)] [(.ref w_JOIN)])) _
    refine XS.astore X14.here hx rfl (hb hby d7_17) rfl rfl (l' := #[.val (.ref xu), .val (.ref b1), .val (.int (6 : Int32)), .val (.int (4 : Int32)), .val (.ref w_JOIN)]) rfl ?_
    show Steps p.tables e below (T14.setTop (mkF m 19 #[.val (.ref xu), .val (.ref b1), .val (.int (6 : Int32)), .val (.int (4 : Int32)), .val (.ref w_JOIN)] [])) _
    refine XS.aload X14.here hx rfl (hb hby d7_19) rfl rfl ?_
    show Steps p.tables e below (T14.setTop (mkF m 21 #[.val (.ref xu), .val (.ref b1), .val (.int (6 : Int32)), .val (.int (4 : Int32)), .val (.ref w_JOIN)] [(.ref w_JOIN)])) _
    refine st16 _ ?_
    show Steps p.tables e below (T16.setTop (mkF m 24 #[.val (.ref xu), .val (.ref b1), .val (.int (6 : Int32)), .val (.int (4 : Int32)), .val (.ref w_JOIN)] [(.ref s4u)])) _
    refine XS.aloadN X16.here hx rfl (hb hby d7_24) rfl rfl ?_
    show Steps p.tables e below (T16.setTop (mkF m 25 #[.val (.ref xu), .val (.ref b1), .val (.int (6 : Int32)), .val (.int (4 : Int32)), .val (.ref w_JOIN)] [(.ref xu), (.ref s4u)])) _
    refine st17.trans ?_
    show Steps p.tables e below (T17.setTop (mkF m 28 #[.val (.ref xu), .val (.ref b1), .val (.int (6 : Int32)), .val (.int (4 : Int32)), .val (.ref w_JOIN)] [(.int (0 : Int32))])) _
    refine XS.ifYes X17.here hx rfl (pc0 := 28) (pc' := 34) rfl (hb hby d7_28) rfl ((if0 _ _).trans (teq (rfl : (0 : Int32) = (0 : Int32))).1) (by decide) (by decide) ?_
    show Steps p.tables e below (T17.setTop (mkF m 34 #[.val (.ref xu), .val (.ref b1), .val (.int (6 : Int32)), .val (.int (4 : Int32)), .val (.ref w_JOIN)] [])) _
    refine XS.iinc X17.here hx rfl (hb hby d7_34) rfl (l' := #[.val (.ref xu), .val (.ref b1), .val (.int (6 : Int32)), .val (.int (5 : Int32)), .val (.ref w_JOIN)]) rfl ?_
    show Steps p.tables e below (T17.setTop (mkF m 37 #[.val (.ref xu), .val (.ref b1), .val (.int (6 : Int32)), .val (.int (5 : Int32)), .val (.ref w_JOIN)] [])) _
    refine XS.goto X17.here hx rfl (pc0 := 37) (pc' := 9) rfl (hb hby d7_37) (by decide) (by decide) ?_
    show Steps p.tables e below (T17.setTop (mkF m 9 #[.val (.ref xu), .val (.ref b1), .val (.int (6 : Int32)), .val (.int (5 : Int32)), .val (.ref w_JOIN)] [])) _
    refine XS.iloadN X17.here hx rfl (hb hby d7_9) rfl ?_
    show Steps p.tables e below (T17.setTop (mkF m 10 #[.val (.ref xu), .val (.ref b1), .val (.int (6 : Int32)), .val (.int (5 : Int32)), .val (.ref w_JOIN)] [(.int (5 : Int32))])) _
    refine XS.iloadN X17.here hx rfl (hb hby d7_10) rfl ?_
    show Steps p.tables e below (T17.setTop (mkF m 11 #[.val (.ref xu), .val (.ref b1), .val (.int (6 : Int32)), .val (.int (5 : Int32)), .val (.ref w_JOIN)] [(.int (6 : Int32)), (.int (5 : Int32))])) _
    refine XS.icmpNo X17.here hx rfl (hb hby d7_11) rfl (tlt (by decide : (5 : Int32) < (6 : Int32))).2.1 ?_
    show Steps p.tables e below (T17.setTop (mkF m 14 #[.val (.ref xu), .val (.ref b1), .val (.int (6 : Int32)), .val (.int (5 : Int32)), .val (.ref w_JOIN)] [])) _
    refine XS.aloadN X17.here hx rfl (hb hby d7_14) rfl rfl ?_
    show Steps p.tables e below (T17.setTop (mkF m 15 #[.val (.ref xu), .val (.ref b1), .val (.int (6 : Int32)), .val (.int (5 : Int32)), .val (.ref w_JOIN)] [(.ref b1)])) _
    refine XS.iloadN X17.here hx rfl (hb hby d7_15) rfl ?_
    show Steps p.tables e below (T17.setTop (mkF m 16 #[.val (.ref xu), .val (.ref b1), .val (.int (6 : Int32)), .val (.int (5 : Int32)), .val (.ref w_JOIN)] [(.int (5 : Int32)), (.ref b1)])) _
    refine X17.aaload hx (j := (5 : Int32)) (v := (.ref w_SUCCESS)) (by rw [e17]; exact Ar18.1) (State.isArrayOf_alike hZ.alike Ar18.2.1) rfl Ar18.2.2 (inb_of S18 ⟨by decide, by decide⟩) (show cl18.slots[((5 : Int32)).toNatClampNeg]? = some (.ref w_SUCCESS) from H18 5 (by rw [S18]; decide)) (g := (mkF m 16 #[.val (.ref xu), .val (.ref b1), .val (.int (6 : Int32)), .val (.int (5 : Int32)), .val (.ref w_JOIN)] [(.int (5 : Int32)), (.ref b1)])) rfl rfl (hb hby d7_16) _ ?_
    show Steps p.tables e below (T17.setTop (mkF m 17 #[.val (.ref xu), .val (.ref b1), .val (.int (6 : Int32)), .val (.int (5 : Int32)), .val (.ref w_JOIN)] [(.ref w_SUCCESS)])) _
    refine XS.astore X17.here hx rfl (hb hby d7_17) rfl rfl (l' := #[.val (.ref xu), .val (.ref b1), .val (.int (6 : Int32)), .val (.int (5 : Int32)), .val (.ref w_SUCCESS)]) rfl ?_
    show Steps p.tables e below (T17.setTop (mkF m 19 #[.val (.ref xu), .val (.ref b1), .val (.int (6 : Int32)), .val (.int (5 : Int32)), .val (.ref w_SUCCESS)] [])) _
    refine XS.aload X17.here hx rfl (hb hby d7_19) rfl rfl ?_
    show Steps p.tables e below (T17.setTop (mkF m 21 #[.val (.ref xu), .val (.ref b1), .val (.int (6 : Int32)), .val (.int (5 : Int32)), .val (.ref w_SUCCESS)] [(.ref w_SUCCESS)])) _
    refine st19 _ ?_
    show Steps p.tables e below (T19.setTop (mkF m 24 #[.val (.ref xu), .val (.ref b1), .val (.int (6 : Int32)), .val (.int (5 : Int32)), .val (.ref w_SUCCESS)] [(.ref s5u)])) _
    refine XS.aloadN X19.here hx rfl (hb hby d7_24) rfl rfl ?_
    show Steps p.tables e below (T19.setTop (mkF m 25 #[.val (.ref xu), .val (.ref b1), .val (.int (6 : Int32)), .val (.int (5 : Int32)), .val (.ref w_SUCCESS)] [(.ref xu), (.ref s5u)])) _
    refine st20.trans ?_
    show Steps p.tables e below (T20.setTop (mkF m 28 #[.val (.ref xu), .val (.ref b1), .val (.int (6 : Int32)), .val (.int (5 : Int32)), .val (.ref w_SUCCESS)] [(.int (1 : Int32))])) _
    refine XS.ifNo X20.here hx rfl (hb hby d7_28) rfl ((if0 _ _).trans (feq (by decide : ¬ ((1 : Int32) = (0 : Int32)))).1) ?_
    show Steps p.tables e below (T20.setTop (mkF m 31 #[.val (.ref xu), .val (.ref b1), .val (.int (6 : Int32)), .val (.int (5 : Int32)), .val (.ref w_SUCCESS)] [])) _
    refine XS.aload X20.here hx rfl (hb hby d7_31) rfl rfl ?_
    show Steps p.tables e below (T20.setTop (mkF m 33 #[.val (.ref xu), .val (.ref b1), .val (.int (6 : Int32)), .val (.int (5 : Int32)), .val (.ref w_SUCCESS)] [(.ref w_SUCCESS)])) _
    jvm_step X20.here [X20.here.top, hx, (hb hby d7_33), X20.method', Bd.returns, Value.isRef, FieldType.isReference]
    first | (intro acts; rw [hr _ acts rfl rfl rfl]) | rw [hr _ _ rfl rfl rfl]
    exact Steps.refl _
  · show Q_rmF5 Z xu xt xk wV kV w_START w_TASK w_WAIT w_FORK w_JOIN w_SUCCESS s0u s0t s0k s1u s1t s1k s2u s2t s2k s3u s3t s3k s4u s4t s4k s5u s5t s5k zc h0 n0 _ T20.heap _
    rw [e20]
    exact ⟨rfl, N20, own_keep_ext K1⟩
theorem pn_rm0 : plainName "com/example/nevermind/nevermind/graphs/NodeTypeFromWireNamePinLaw" = true := by first | (simp [plainName, overriddenIn]; done) | decide +kernel
theorem pd_rm0_0 : parseMethodDescriptor "([C)V" = some ⟨[(.array .char)], none⟩ := by decide +kernel
theorem pd_rm0_1 : parseMethodDescriptor "(Ljava/lang/String;)Lcom/example/nevermind/nevermind/graphs/NodeType;" = some ⟨[(.object "java/lang/String")], some (.object "com/example/nevermind/nevermind/graphs/NodeType")⟩ := by decide +kernel
theorem ef_rm0 (m : MethodId) (p1 : Int32) : entryFrame m #[(.int p1)] maxLocals = mkF m 0 #[.val (.int p1), .unset, .unset, .unset, .unset] [] := by first | (simp [entryFrame, mkF, argsToLocals, Value.category, maxLocals]; done) | rfl
def Q_rm0 (Z : State) (p1 : Int32) (wV : Addr) (kV : ClassId) (w_START : Addr) (w_TASK : Addr) (w_WAIT : Addr) (w_FORK : Addr) (w_JOIN : Addr) (w_SUCCESS : Addr) (s0u : Addr) (s0t : Addr) (s0k : ClassId) (s1u : Addr) (s1t : Addr) (s1k : ClassId) (s2u : Addr) (s2t : Addr) (s2k : ClassId) (s3u : Addr) (s3t : Addr) (s3k : ClassId) (s4u : Addr) (s4t : Addr) (s4k : ClassId) (s5u : Addr) (s5t : Addr) (s5k : ClassId) (zc : Int32) (h0 : Heap) (n0 : Nat) (v : Option Value) (h : Heap) (L : List Loc) : Prop := v = some (.int (1 : Int32)) ∧ Fr n0 L
set_option maxRecDepth 65536 in
set_option maxHeartbeats 40000000 in
theorem rm0 (l : Launch) (Z : State) (a0 : Array Value) (hw : ∀ d ∈ tables_1, d.before a0 Z = true) (ws : List Jvm.Cond) (p1 : Int32) (wV : Addr) (kV : ClassId) (w_START : Addr) (w_TASK : Addr) (w_WAIT : Addr) (w_FORK : Addr) (w_JOIN : Addr) (w_SUCCESS : Addr) (s0u : Addr) (s0t : Addr) (s0k : ClassId) (s1u : Addr) (s1t : Addr) (s1k : ClassId) (s2u : Addr) (s2t : Addr) (s2k : ClassId) (s3u : Addr) (s3t : Addr) (s3k : ClassId) (s4u : Addr) (s4t : Addr) (s4k : ClassId) (s5u : Addr) (s5t : Addr) (s5k : ClassId) (zc : Int32) (h0 : Heap) (n0 : Nat) (Z0 : n0 ≤ h0.size) (S_V : Sta Z h0 "com/example/nevermind/nevermind/graphs/NodeType" "$VALUES" "[Lcom/example/nevermind/nevermind/graphs/NodeType;" (.ref wV)) (V_V : Arv Z h0 wV kV (.object "com/example/nevermind/nevermind/graphs/NodeType") (6 : Int32) [.ref w_START, .ref w_TASK, .ref w_WAIT, .ref w_FORK, .ref w_JOIN, .ref w_SUCCESS] .null) (E_V : Exa Z h0 wV "[Lcom/example/nevermind/nevermind/graphs/NodeType;") (s0F : Fld Z h0 w_START "com/example/nevermind/nevermind/graphs/NodeType" "wireName" "Ljava/lang/String;" (.ref s0u)) (s0E : Exa Z h0 s0u "java/lang/String") (s0V : Fld Z h0 s0u "java/lang/String" "value" "[B" (.ref s0t)) (s0C : Fld Z h0 s0u "java/lang/String" "coder" "B" (.int (0 : Int32))) (s0K : Arv Z h0 s0t s0k .byte (5 : Int32) (cs0.map Value.int) (.int 0)) (s1F : Fld Z h0 w_TASK "com/example/nevermind/nevermind/graphs/NodeType" "wireName" "Ljava/lang/String;" (.ref s1u)) (s1E : Exa Z h0 s1u "java/lang/String") (s1V : Fld Z h0 s1u "java/lang/String" "value" "[B" (.ref s1t)) (s1C : Fld Z h0 s1u "java/lang/String" "coder" "B" (.int (0 : Int32))) (s1K : Arv Z h0 s1t s1k .byte (4 : Int32) (cs1.map Value.int) (.int 0)) (s2F : Fld Z h0 w_WAIT "com/example/nevermind/nevermind/graphs/NodeType" "wireName" "Ljava/lang/String;" (.ref s2u)) (s2E : Exa Z h0 s2u "java/lang/String") (s2V : Fld Z h0 s2u "java/lang/String" "value" "[B" (.ref s2t)) (s2C : Fld Z h0 s2u "java/lang/String" "coder" "B" (.int (0 : Int32))) (s2K : Arv Z h0 s2t s2k .byte (4 : Int32) (cs2.map Value.int) (.int 0)) (s3F : Fld Z h0 w_FORK "com/example/nevermind/nevermind/graphs/NodeType" "wireName" "Ljava/lang/String;" (.ref s3u)) (s3E : Exa Z h0 s3u "java/lang/String") (s3V : Fld Z h0 s3u "java/lang/String" "value" "[B" (.ref s3t)) (s3C : Fld Z h0 s3u "java/lang/String" "coder" "B" (.int (0 : Int32))) (s3K : Arv Z h0 s3t s3k .byte (4 : Int32) (cs3.map Value.int) (.int 0)) (s4F : Fld Z h0 w_JOIN "com/example/nevermind/nevermind/graphs/NodeType" "wireName" "Ljava/lang/String;" (.ref s4u)) (s4E : Exa Z h0 s4u "java/lang/String") (s4V : Fld Z h0 s4u "java/lang/String" "value" "[B" (.ref s4t)) (s4C : Fld Z h0 s4u "java/lang/String" "coder" "B" (.int (0 : Int32))) (s4K : Arv Z h0 s4t s4k .byte (4 : Int32) (cs4.map Value.int) (.int 0)) (s5F : Fld Z h0 w_SUCCESS "com/example/nevermind/nevermind/graphs/NodeType" "wireName" "Ljava/lang/String;" (.ref s5u)) (s5E : Exa Z h0 s5u "java/lang/String") (s5V : Fld Z h0 s5u "java/lang/String" "value" "[B" (.ref s5t)) (s5C : Fld Z h0 s5u "java/lang/String" "coder" "B" (.int (0 : Int32))) (s5K : Arv Z h0 s5t s5k .byte (7 : Int32) (cs5.map Value.int) (.int 0)) (S_C : Sta Z h0 "java/lang/String" "COMPACT_STRINGS" "Z" (.int zc)) (hzc : ¬ zc = 0) (S_START : Sta Z h0 "com/example/nevermind/nevermind/graphs/NodeType" "START" "Lcom/example/nevermind/nevermind/graphs/NodeType;" (.ref w_START)) (S_TASK : Sta Z h0 "com/example/nevermind/nevermind/graphs/NodeType" "TASK" "Lcom/example/nevermind/nevermind/graphs/NodeType;" (.ref w_TASK)) (S_WAIT : Sta Z h0 "com/example/nevermind/nevermind/graphs/NodeType" "WAIT" "Lcom/example/nevermind/nevermind/graphs/NodeType;" (.ref w_WAIT)) (S_FORK : Sta Z h0 "com/example/nevermind/nevermind/graphs/NodeType" "FORK" "Lcom/example/nevermind/nevermind/graphs/NodeType;" (.ref w_FORK)) (S_JOIN : Sta Z h0 "com/example/nevermind/nevermind/graphs/NodeType" "JOIN" "Lcom/example/nevermind/nevermind/graphs/NodeType;" (.ref w_JOIN)) (S_SUCCESS : Sta Z h0 "com/example/nevermind/nevermind/graphs/NodeType" "SUCCESS" "Lcom/example/nevermind/nevermind/graphs/NodeType;" (.ref w_SUCCESS)) :
    MetFree l x (head1 (Jvm.Cond.code x code maxLocals ret :: ws) room_1) (fun a U => a = #[(.int p1)] ∧ Z.Warmed39 U.vm ∧ U.heap = h0) (fun _ _ _ _ _ => True) (fun _ U o U' => ∃ v L, o = .returned v ∧ Q_rm0 Z p1 wV kV w_START w_TASK w_WAIT w_FORK w_JOIN w_SUCCESS s0u s0t s0k s1u s1t s1k s2u s2t s2k s3u s3t s3k s4u s4t s4k s5u s5t s5k zc h0 n0 v U'.heap L ∧ FrameEnd U o U' L room_1.cells room_1.slots) := by
  refine MetFree.of_bodySF (plainFor_of_name pn_rm0) hisR ?_
  intro p e s m args below meth c s₁ Bd hml0 hP hK
  obtain ⟨rfl, hZ, hh⟩ := hP
  have hx := Bd.exec
  have hby := Bd.bytes
  have hml : c.maxLocals = 5 := hml0
  have hown : s.vm.findClass "com/example/nevermind/nevermind/graphs/NodeTypeFromWireNamePinLaw" = some m.cls := findClass_of_methodNamed Bd.named
  have hnm := (name_of_methodNamed Bd.named Bd.method).1
  have X0 : Stand p l e room_1 s m #[(.int p1)] below meth c s₁ [] 0 0 := Stand.of_body Bd
  have e0 : s₁.heap = h0 := by rw [← hh, Bd.state]; rfl
  have N0 := Fr.nil n0
  have pre0 : ∀ t, Steps p.tables e below (s₁.setTop (mkF m 0 #[.val (.int p1), .unset, .unset, .unset, .unset] [])) t → Steps p.tables e below (s₁.setTop (entryFrame m #[(.int p1)] maxLocals)) t := fun t k => castTop (ef_rm0 m p1) k
  have pre1 : ∀ t, Steps p.tables e below (s₁.setTop (mkF m 7 #[.val (.int p1), .unset, .unset, .unset, .unset] [(.int ((p1 &&& (2147483647 : Int32)) % (6 : Int32)))])) t → Steps p.tables e below (s₁.setTop (entryFrame m #[(.int p1)] maxLocals)) t := fun t k => pre0 t (by
      show Steps p.tables e below (s₁.setTop (mkF m 0 #[.val (.int p1), .unset, .unset, .unset, .unset] [])) _
      refine XS.iloadN X0.here hx rfl (hb hby at_0) rfl ?_
      show Steps p.tables e below (s₁.setTop (mkF m 1 #[.val (.int p1), .unset, .unset, .unset, .unset] [(.int p1)])) _
      refine X0.ldcInt hx hown (mvT hZ (hw _ (List.mem_of_getElem? (i := 0) rfl))) (g := (mkF m 1 #[.val (.int p1), .unset, .unset, .unset, .unset] [(.int p1)])) rfl (hb hby at_1) _ ?_
      show Steps p.tables e below (s₁.setTop (mkF m 3 #[.val (.int p1), .unset, .unset, .unset, .unset] [(.int (2147483647 : Int32)), (.int p1)])) _
      refine XS.iand X0.here hx rfl (hb hby at_3) rfl ?_
      show Steps p.tables e below (s₁.setTop (mkF m 4 #[.val (.int p1), .unset, .unset, .unset, .unset] [(.int (p1 &&& (2147483647 : Int32)))])) _
      refine XS.bipush X0.here hx rfl (hb hby at_4) ?_
      show Steps p.tables e below (s₁.setTop (mkF m 6 #[.val (.int p1), .unset, .unset, .unset, .unset] [(.int (6 : Int32)), (.int (p1 &&& (2147483647 : Int32)))])) _
      refine Jvm.RoadKit.iremM (g := (mkF m 6 #[.val (.int p1), .unset, .unset, .unset, .unset] [(.int (6 : Int32)), (.int (p1 &&& (2147483647 : Int32)))])) X0 hx rfl (hb hby at_6) rfl (by decide) ?_
      exact k)
  have hbnd := own_rem p1 (6 : Int32) 6 rfl (by decide)
  rcases own_cases6 hbnd.1 hbnd.2 with hk | hk | hk | hk | hk | hk
  · have pre2 : ∀ t, Steps p.tables e below (s₁.setTop (mkF m 7 #[.val (.int p1), .unset, .unset, .unset, .unset] [(.int (0 : Int32))])) t → Steps p.tables e below (s₁.setTop (entryFrame m #[(.int p1)] maxLocals)) t := fun t k => pre1 t (by rw [hk]; exact k)
    obtain ⟨T3, h3, k3, X3, e3, E3, A3, st3⟩ := newP X0 hx hZ (hw _ (List.mem_of_getElem? (i := 1) rfl)) e0 (g := (mkF m 13 #[.val (.int p1), .val (.int (0 : Int32)), .unset, .unset, .unset] [(.int (5 : Int32))])) rfl (hb hby at_13) rfl (by decide) (cap := 5) (by decide) (by decide) (by decide) (by decide)
    obtain ⟨b3, g3⟩ : ∃ z, z = h0.size := ⟨_, rfl⟩
    rw [← g3] at A3 st3
    have V_b3 : Arv Z h3 b3 k3 .char (5 : Int32) [(.int (0 : Int32)), (.int (0 : Int32)), (.int (0 : Int32)), (.int (0 : Int32)), (.int (0 : Int32))] (.int (0 : Int32)) := (Arv.new A3 (by decide)).pad (pad_rep [] (.int (0 : Int32)) 5)
    have g_b3 : n0 ≤ b3 := Nat.le_trans Z0 (Nat.le_of_eq g3.symm)
    have sz_b3 : h0.size ≤ b3 := Nat.le_trans ((Keep.refl h0 [])).1 (Nat.le_of_eq g3.symm)
    have K3 : Keep h0 h3 [] := ((Keep.refl h0 [])).ext E3
    obtain ⟨cl4, Ar4, q4, S4, N4_, H4, G4⟩ := id V_b3
    obtain ⟨T4, h4, X4, e4, W4, st4⟩ := stC X3 hx hZ e3 Ar4 (j := (0 : Int32)) (inb_of S4 ⟨by decide, by decide⟩) (g := (mkF m 19 #[.val (.int p1), .val (.int (0 : Int32)), .unset, .unset, .unset] [(.int (83 : Int32)), (.int (0 : Int32)), (.ref b3), (.ref b3)])) rfl rfl (hb hby at_19)
    have V4 := Arv.set Ar4 q4 S4 N4_ H4 G4 (fits_nar_char _) W4 0 rfl (Nat.le_of_ble_eq_true rfl)
    have K4 : Keep h0 h4 [] := (K3).wr W4 (Or.inr sz_b3)
    have N4 := Fr.snoc X4 N0 g_b3
    obtain ⟨cl5, Ar5, q5, S5, N5_, H5, G5⟩ := id V4
    obtain ⟨T5, h5, X5, e5, W5, st5⟩ := stC X4 hx hZ e4 Ar5 (j := (1 : Int32)) (inb_of S5 ⟨by decide, by decide⟩) (g := (mkF m 24 #[.val (.int p1), .val (.int (0 : Int32)), .unset, .unset, .unset] [(.int (116 : Int32)), (.int (1 : Int32)), (.ref b3), (.ref b3)])) rfl rfl (hb hby at_24)
    have V5 := Arv.set Ar5 q5 S5 N5_ H5 G5 (fits_nar_char _) W5 1 rfl (Nat.le_of_ble_eq_true rfl)
    have K5 : Keep h0 h5 [] := (K4).wr W5 (Or.inr sz_b3)
    have N5 := Fr.snoc X5 N4 g_b3
    obtain ⟨cl6, Ar6, q6, S6, N6_, H6, G6⟩ := id V5
    obtain ⟨T6, h6, X6, e6, W6, st6⟩ := stC X5 hx hZ e5 Ar6 (j := (2 : Int32)) (inb_of S6 ⟨by decide, by decide⟩) (g := (mkF m 29 #[.val (.int p1), .val (.int (0 : Int32)), .unset, .unset, .unset] [(.int (97 : Int32)), (.int (2 : Int32)), (.ref b3), (.ref b3)])) rfl rfl (hb hby at_29)
    have V6 := Arv.set Ar6 q6 S6 N6_ H6 G6 (fits_nar_char _) W6 2 rfl (Nat.le_of_ble_eq_true rfl)
    have K6 : Keep h0 h6 [] := (K5).wr W6 (Or.inr sz_b3)
    have N6 := Fr.snoc X6 N5 g_b3
    obtain ⟨cl7, Ar7, q7, S7, N7_, H7, G7⟩ := id V6
    obtain ⟨T7, h7, X7, e7, W7, st7⟩ := stC X6 hx hZ e6 Ar7 (j := (3 : Int32)) (inb_of S7 ⟨by decide, by decide⟩) (g := (mkF m 34 #[.val (.int p1), .val (.int (0 : Int32)), .unset, .unset, .unset] [(.int (114 : Int32)), (.int (3 : Int32)), (.ref b3), (.ref b3)])) rfl rfl (hb hby at_34)
    have V7 := Arv.set Ar7 q7 S7 N7_ H7 G7 (fits_nar_char _) W7 3 rfl (Nat.le_of_ble_eq_true rfl)
    have K7 : Keep h0 h7 [] := (K6).wr W7 (Or.inr sz_b3)
    have N7 := Fr.snoc X7 N6 g_b3
    obtain ⟨cl8, Ar8, q8, S8, N8_, H8, G8⟩ := id V7
    obtain ⟨T8, h8, X8, e8, W8, st8⟩ := stC X7 hx hZ e7 Ar8 (j := (4 : Int32)) (inb_of S8 ⟨by decide, by decide⟩) (g := (mkF m 39 #[.val (.int p1), .val (.int (0 : Int32)), .unset, .unset, .unset] [(.int (116 : Int32)), (.int (4 : Int32)), (.ref b3), (.ref b3)])) rfl rfl (hb hby at_39)
    have V8 := Arv.set Ar8 q8 S8 N8_ H8 G8 (fits_nar_char _) W8 4 rfl (Nat.le_of_ble_eq_true rfl)
    have K8 : Keep h0 h8 [] := (K7).wr W8 (Or.inr sz_b3)
    have N8 := Fr.snoc X8 N7 g_b3
    obtain ⟨T9, X9, e9, st9⟩ := getS2 X8 hx hZ hown (host := "") (Or.inl (hw _ (List.mem_of_getElem? (i := 2) rfl))) Via.refl e8 (Sta.ext (own_keep_ext K8) S_START) (g := (mkF m 41 #[.val (.int p1), .val (.int (0 : Int32)), .val (.ref b3), .unset, .unset] [])) rfl (hb hby at_41)
    obtain ⟨T10, h10, X10, e10, E10, A10, D10, -, st10⟩ := newO X9 hx hZ hown (hw _ (List.mem_of_getElem? (i := 5) rfl)) (hw _ (List.mem_of_getElem? (i := 6) rfl)) (hw _ (List.mem_of_getElem? (i := 7) rfl)) e9 (g := (mkF m 237 #[.val (.int p1), .val (.int (0 : Int32)), .val (.ref b3), .val (.ref w_START), .unset] [])) rfl (hb hby at_237) (by decide) (by decide)
    obtain ⟨b10, g10⟩ : ∃ z, z = h8.size := ⟨_, rfl⟩
    rw [← g10] at A10 D10 st10
    have ne_b3_b10 : b3 ≠ b10 := Nat.ne_of_lt (Nat.lt_of_lt_of_le V8.lt (Nat.le_of_eq g10.symm))
    have g_b10 : n0 ≤ b10 := Nat.le_trans (Nat.le_trans Z0 K8.1) (Nat.le_of_eq g10.symm)
    have sz_b10 : h0.size ≤ b10 := Nat.le_trans (K8).1 (Nat.le_of_eq g10.symm)
    have K10 : Keep h0 h10 [] := (K8).ext E10
    have F10_coder : Fld Z h10 b10 "java/lang/String" "coder" "B" (.int (0 : Int32)) := D10 (Or.inr (hw _ (List.mem_of_getElem? (i := 31) rfl))) (ty := .byte) (by decide)
    have F10_value : Fld Z h10 b10 "java/lang/String" "value" "[B" .null := D10 (Or.inr (hw _ (List.mem_of_getElem? (i := 33) rfl))) (ty := (.array .byte)) (by decide)
    have f11 := (V8.ext E10)
    have V12 : Arv Z h10 b3 _ .char (5 : Int32) (cs0.map Value.int) (.int (0 : Int32)) := f11
    have hws : ∀ d ∈ StrChars.Road.words, d.before a0 Z = true := fun d hd => hw d ((by decide +kernel : ∀ d ∈ StrChars.Road.words, d ∈ tables_1) d hd)
    obtain ⟨_, _, ⟨T13, L13, k13, n13⟩, -, X13, ⟨Lc13, hQ13, l13, y13, z13⟩, st13⟩ := X10.specialBack hx (y := (⟨"java/lang/String", "<init>", "([C)V"⟩ : MethodName)) rfl hown (mvT hZ (hw _ (List.mem_of_getElem? (i := 8) rfl))) (mvT hZ (hw _ (List.mem_of_getElem? (i := 9) rfl))) (mvT hZ (hw _ (List.mem_of_getElem? (i := 10) rfl))) (by decide) (StrChars.Road.backV (W := 1) hZ hws (kI := 4) (hw _ (List.mem_of_getElem? (i := 6) rfl)) (cs := cs0) (bs := cs0.map (fun c => c.toInt8.toInt32)) (n := 5) g_b10 (Nat.le_trans Z0 K10.1) A10 F10_value F10_coder V12 (Sta.ext (own_keep_ext K10) S_C) hzc rfl rfl (by decide) (by decide) own_c0 rfl (by decide) (by decide)) (g := (mkF m 242 #[.val (.int p1), .val (.int (0 : Int32)), .val (.ref b3), .val (.ref w_START), .unset] [(.ref b3), (.ref b10), (.ref b10)])) rfl (by rw [hml]; rfl) (Steps.refl _) (a := b10) (argsL := [(.ref b3)]) (rest := [(.ref b10)]) (lenOf pd_rm0_0 rfl) rfl (by show 2 * 0 + _ ≤ _; exact Nat.le_of_eq rfl) (hb hby at_242) (fun _ _ => ⟨rfl, e10, (by decide : 2 + 1 ≤ _), (by decide : 9 + 5 ≤ _)⟩)
    dsimp only [Pt.U, Pt.locs, Pt.cells, Pt.slots] at X13 l13 y13 z13 st13 hQ13
    subst l13 y13 z13
    obtain ⟨rfl, N13q, K13q, A13q, C13q, t13, k13, g131, g132, g133, F13q, B13q⟩ := hQ13
    have N13 := Fr.app N8 N13q
    have K13 : Keep h0 T13.heap [] := (K10).trans K13q (allS (Or.inr sz_b10) all0)
    have Xt : Ext h0 T13.heap := own_keep_ext K13
    obtain ⟨_, _, ⟨T14, L14, k14, n14⟩, -, X14, ⟨Lc14, hQ14, l14, y14, z14⟩, st14⟩ := Jvm.LawKit.callS X13 hx (y := (⟨"com/example/nevermind/nevermind/graphs/NodeType", "fromWireName", "(Ljava/lang/String;)Lcom/example/nevermind/nevermind/graphs/NodeType;"⟩ : MethodName)) hown (mvT hZ (hw _ (List.mem_of_getElem? (i := 34) rfl))) (mvT hZ (hw _ (List.mem_of_getElem? (i := 35) rfl))) (mvT hZ (hw _ (List.mem_of_getElem? (i := 3) rfl))) (mvT hZ (hw _ (List.mem_of_getElem? (i := 36) rfl))) (by decide) (backOf (W := 0) (rmF0 l Z a0 hw [] b10 t13 k13 wV kV w_START w_TASK w_WAIT w_FORK w_JOIN w_SUCCESS s0u s0t s0k s1u s1t s1k s2u s2t s2k s3u s3t s3k s4u s4t s4k s5u s5t s5k zc T13.heap n0 (Nat.le_trans Z0 K13.1) A13q F13q C13q B13q (Sta.ext Xt S_V) (V_V.ext Xt) (Exa.ext Xt E_V) (Fld.ext Xt s0F) (Exa.ext Xt s0E) (Fld.ext Xt s0V) (Fld.ext Xt s0C) (s0K.ext Xt) (Fld.ext Xt s1F) (Exa.ext Xt s1E) (Fld.ext Xt s1V) (Fld.ext Xt s1C) (s1K.ext Xt) (Fld.ext Xt s2F) (Exa.ext Xt s2E) (Fld.ext Xt s2V) (Fld.ext Xt s2C) (s2K.ext Xt) (Fld.ext Xt s3F) (Exa.ext Xt s3E) (Fld.ext Xt s3V) (Fld.ext Xt s3C) (s3K.ext Xt) (Fld.ext Xt s4F) (Exa.ext Xt s4E) (Fld.ext Xt s4V) (Fld.ext Xt s4C) (s4K.ext Xt) (Fld.ext Xt s5F) (Exa.ext Xt s5E) (Fld.ext Xt s5V) (Fld.ext Xt s5C) (s5K.ext Xt) (Sta.ext Xt S_C) hzc) hZ (hw _ (List.mem_of_getElem? (i := 36) rfl)) (hw _ (List.mem_of_getElem? (i := 3) rfl)) (by decide) (by decide)) (g := (mkF m 245 #[.val (.int p1), .val (.int (0 : Int32)), .val (.ref b3), .val (.ref w_START), .unset] [(.ref b10)])) rfl (by rw [hml]; rfl) (argsL := [(.ref b10)]) (rest := []) (lenOf pd_rm0_1 rfl) rfl (by show 2 * 0 + _ ≤ _; exact Nat.le_of_eq rfl) (hb hby at_245) (fun _ _ => ⟨rfl, rfl, (by decide : 3 + 1 ≤ _), (by decide : 14 + 6 ≤ _)⟩)
    dsimp only [Pt.U, Pt.locs, Pt.cells, Pt.slots] at X14 l14 y14 z14 st14 hQ14
    subst l14 y14 z14
    obtain ⟨rfl, N14q, E14q⟩ := hQ14
    have N14 := Fr.app N13 N14q
    obtain ⟨fs, hr, hrun, hended, hW, hsame⟩ := X14.leave (v := some (.int (1 : Int32))) (fun h => by rw [Bd.returns] at h; cases h)
    refine ⟨_, _, pre2 _ ?_, hrun, hended, _, _, rfl, ?_, ⟨_, rfl⟩, hW, hsame.mono (by decide) (by decide)⟩
    · show Steps p.tables e below (s₁.setTop (mkF m 7 #[.val (.int p1), .unset, .unset, .unset, .unset] [(.int (0 : Int32))])) _
      refine XS.istoreN X0.here hx rfl (hb hby at_7) rfl (l' := #[.val (.int p1), .val (.int (0 : Int32)), .unset, .unset, .unset]) rfl ?_
      show Steps p.tables e below (s₁.setTop (mkF m 8 #[.val (.int p1), .val (.int (0 : Int32)), .unset, .unset, .unset] [])) _
      refine XS.iloadN X0.here hx rfl (hb hby at_8) rfl ?_
      show Steps p.tables e below (s₁.setTop (mkF m 9 #[.val (.int p1), .val (.int (0 : Int32)), .unset, .unset, .unset] [(.int (0 : Int32))])) _
      refine XS.ifNo X0.here hx rfl (hb hby at_9) rfl ((if0 _ _).trans (teq (rfl : (0 : Int32) = (0 : Int32))).2) ?_
      show Steps p.tables e below (s₁.setTop (mkF m 12 #[.val (.int p1), .val (.int (0 : Int32)), .unset, .unset, .unset] [])) _
      refine XS.iconst X0.here hx rfl (hb hby at_12) ?_
      show Steps p.tables e below (s₁.setTop (mkF m 13 #[.val (.int p1), .val (.int (0 : Int32)), .unset, .unset, .unset] [(.int (5 : Int32))])) _
      refine st3 _ ?_
      show Steps p.tables e below (T3.setTop (mkF m 15 #[.val (.int p1), .val (.int (0 : Int32)), .unset, .unset, .unset] [(.ref b3)])) _
      refine XS.dup X3.here hx rfl (hb hby at_15) rfl rfl ?_
      show Steps p.tables e below (T3.setTop (mkF m 16 #[.val (.int p1), .val (.int (0 : Int32)), .unset, .unset, .unset] [(.ref b3), (.ref b3)])) _
      refine XS.iconst X3.here hx rfl (hb hby at_16) ?_
      show Steps p.tables e below (T3.setTop (mkF m 17 #[.val (.int p1), .val (.int (0 : Int32)), .unset, .unset, .unset] [(.int (0 : Int32)), (.ref b3), (.ref b3)])) _
      refine XS.bipush X3.here hx rfl (hb hby at_17) ?_
      show Steps p.tables e below (T3.setTop (mkF m 19 #[.val (.int p1), .val (.int (0 : Int32)), .unset, .unset, .unset] [(.int (83 : Int32)), (.int (0 : Int32)), (.ref b3), (.ref b3)])) _
      refine st4 _ ?_
      show Steps p.tables e below (T4.setTop (mkF m 20 #[.val (.int p1), .val (.int (0 : Int32)), .unset, .unset, .unset] [(.ref b3)])) _
      refine XS.dup X4.here hx rfl (hb hby at_20) rfl rfl ?_
      show Steps p.tables e below (T4.setTop (mkF m 21 #[.val (.int p1), .val (.int (0 : Int32)), .unset, .unset, .unset] [(.ref b3), (.ref b3)])) _
      refine XS.iconst X4.here hx rfl (hb hby at_21) ?_
      show Steps p.tables e below (T4.setTop (mkF m 22 #[.val (.int p1), .val (.int (0 : Int32)), .unset, .unset, .unset] [(.int (1 : Int32)), (.ref b3), (.ref b3)])) _
      refine XS.bipush X4.here hx rfl (hb hby at_22) ?_
      show Steps p.tables e below (T4.setTop (mkF m 24 #[.val (.int p1), .val (.int (0 : Int32)), .unset, .unset, .unset] [(.int (116 : Int32)), (.int (1 : Int32)), (.ref b3), (.ref b3)])) _
      refine st5 _ ?_
      show Steps p.tables e below (T5.setTop (mkF m 25 #[.val (.int p1), .val (.int (0 : Int32)), .unset, .unset, .unset] [(.ref b3)])) _
      refine XS.dup X5.here hx rfl (hb hby at_25) rfl rfl ?_
      show Steps p.tables e below (T5.setTop (mkF m 26 #[.val (.int p1), .val (.int (0 : Int32)), .unset, .unset, .unset] [(.ref b3), (.ref b3)])) _
      refine XS.iconst X5.here hx rfl (hb hby at_26) ?_
      show Steps p.tables e below (T5.setTop (mkF m 27 #[.val (.int p1), .val (.int (0 : Int32)), .unset, .unset, .unset] [(.int (2 : Int32)), (.ref b3), (.ref b3)])) _
      refine XS.bipush X5.here hx rfl (hb hby at_27) ?_
      show Steps p.tables e below (T5.setTop (mkF m 29 #[.val (.int p1), .val (.int (0 : Int32)), .unset, .unset, .unset] [(.int (97 : Int32)), (.int (2 : Int32)), (.ref b3), (.ref b3)])) _
      refine st6 _ ?_
      show Steps p.tables e below (T6.setTop (mkF m 30 #[.val (.int p1), .val (.int (0 : Int32)), .unset, .unset, .unset] [(.ref b3)])) _
      refine XS.dup X6.here hx rfl (hb hby at_30) rfl rfl ?_
      show Steps p.tables e below (T6.setTop (mkF m 31 #[.val (.int p1), .val (.int (0 : Int32)), .unset, .unset, .unset] [(.ref b3), (.ref b3)])) _
      refine XS.iconst X6.here hx rfl (hb hby at_31) ?_
      show Steps p.tables e below (T6.setTop (mkF m 32 #[.val (.int p1), .val (.int (0 : Int32)), .unset, .unset, .unset] [(.int (3 : Int32)), (.ref b3), (.ref b3)])) _
      refine XS.bipush X6.here hx rfl (hb hby at_32) ?_
      show Steps p.tables e below (T6.setTop (mkF m 34 #[.val (.int p1), .val (.int (0 : Int32)), .unset, .unset, .unset] [(.int (114 : Int32)), (.int (3 : Int32)), (.ref b3), (.ref b3)])) _
      refine st7 _ ?_
      show Steps p.tables e below (T7.setTop (mkF m 35 #[.val (.int p1), .val (.int (0 : Int32)), .unset, .unset, .unset] [(.ref b3)])) _
      refine XS.dup X7.here hx rfl (hb hby at_35) rfl rfl ?_
      show Steps p.tables e below (T7.setTop (mkF m 36 #[.val (.int p1), .val (.int (0 : Int32)), .unset, .unset, .unset] [(.ref b3), (.ref b3)])) _
      refine XS.iconst X7.here hx rfl (hb hby at_36) ?_
      show Steps p.tables e below (T7.setTop (mkF m 37 #[.val (.int p1), .val (.int (0 : Int32)), .unset, .unset, .unset] [(.int (4 : Int32)), (.ref b3), (.ref b3)])) _
      refine XS.bipush X7.here hx rfl (hb hby at_37) ?_
      show Steps p.tables e below (T7.setTop (mkF m 39 #[.val (.int p1), .val (.int (0 : Int32)), .unset, .unset, .unset] [(.int (116 : Int32)), (.int (4 : Int32)), (.ref b3), (.ref b3)])) _
      refine st8 _ ?_
      show Steps p.tables e below (T8.setTop (mkF m 40 #[.val (.int p1), .val (.int (0 : Int32)), .unset, .unset, .unset] [(.ref b3)])) _
      refine XS.astoreN X8.here hx rfl (hb hby at_40) rfl rfl (l' := #[.val (.int p1), .val (.int (0 : Int32)), .val (.ref b3), .unset, .unset]) rfl ?_
      show Steps p.tables e below (T8.setTop (mkF m 41 #[.val (.int p1), .val (.int (0 : Int32)), .val (.ref b3), .unset, .unset] [])) _
      refine st9 _ ?_
      show Steps p.tables e below (T9.setTop (mkF m 44 #[.val (.int p1), .val (.int (0 : Int32)), .val (.ref b3), .unset, .unset] [(.ref w_START)])) _
      refine XS.astoreN X9.here hx rfl (hb hby at_44) rfl rfl (l' := #[.val (.int p1), .val (.int (0 : Int32)), .val (.ref b3), .val (.ref w_START), .unset]) rfl ?_
      show Steps p.tables e below (T9.setTop (mkF m 45 #[.val (.int p1), .val (.int (0 : Int32)), .val (.ref b3), .val (.ref w_START), .unset] [])) _
      refine XS.goto X9.here hx rfl (pc0 := 45) (pc' := 237) rfl (hb hby at_45) (by decide) (by decide) ?_
      show Steps p.tables e below (T9.setTop (mkF m 237 #[.val (.int p1), .val (.int (0 : Int32)), .val (.ref b3), .val (.ref w_START), .unset] [])) _
      refine st10 _ ?_
      show Steps p.tables e below (T10.setTop (mkF m 240 #[.val (.int p1), .val (.int (0 : Int32)), .val (.ref b3), .val (.ref w_START), .unset] [(.ref b10)])) _
      refine XS.dup X10.here hx rfl (hb hby at_240) rfl rfl ?_
      show Steps p.tables e below (T10.setTop (mkF m 241 #[.val (.int p1), .val (.int (0 : Int32)), .val (.ref b3), .val (.ref w_START), .unset] [(.ref b10), (.ref b10)])) _
      refine XS.aloadN X10.here hx rfl (hb hby at_241) rfl rfl ?_
      show Steps p.tables e below (T10.setTop (mkF m 242 #[.val (.int p1), .val (.int (0 : Int32)), .val (.ref b3), .val (.ref w_START), .unset] [(.ref b3), (.ref b10), (.ref b10)])) _
      refine st13.trans ?_
      show Steps p.tables e below (T13.setTop (mkF m 245 #[.val (.int p1), .val (.int (0 : Int32)), .val (.ref b3), .val (.ref w_START), .unset] [(.ref b10)])) _
      refine st14 _ ?_
      show Steps p.tables e below (T14.setTop (mkF m 248 #[.val (.int p1), .val (.int (0 : Int32)), .val (.ref b3), .val (.ref w_START), .unset] [(.ref w_START)])) _
      refine XS.astore X14.here hx rfl (hb hby at_248) rfl rfl (l' := #[.val (.int p1), .val (.int (0 : Int32)), .val (.ref b3), .val (.ref w_START), .val (.ref w_START)]) rfl ?_
      show Steps p.tables e below (T14.setTop (mkF m 250 #[.val (.int p1), .val (.int (0 : Int32)), .val (.ref b3), .val (.ref w_START), .val (.ref w_START)] [])) _
      refine XS.aload X14.here hx rfl (hb hby at_250) rfl rfl ?_
      show Steps p.tables e below (T14.setTop (mkF m 252 #[.val (.int p1), .val (.int (0 : Int32)), .val (.ref b3), .val (.ref w_START), .val (.ref w_START)] [(.ref w_START)])) _
      refine XS.aloadN X14.here hx rfl (hb hby at_252) rfl rfl ?_
      show Steps p.tables e below (T14.setTop (mkF m 253 #[.val (.int p1), .val (.int (0 : Int32)), .val (.ref b3), .val (.ref w_START), .val (.ref w_START)] [(.ref w_START), (.ref w_START)])) _
      refine Jvm.RoadKit.acmp (g := (mkF m 253 #[.val (.int p1), .val (.int (0 : Int32)), .val (.ref b3), .val (.ref w_START), .val (.ref w_START)] [(.ref w_START), (.ref w_START)])) X14 hx rfl rfl rfl (pc0 := 253) (pc' := 256) (same := true) rfl (hb hby at_253) rfl (decide_eq_true rfl) (by decide) (by decide) ?_
      show Steps p.tables e below (T14.setTop (mkF m 256 #[.val (.int p1), .val (.int (0 : Int32)), .val (.ref b3), .val (.ref w_START), .val (.ref w_START)] [])) _
      refine XS.iconst X14.here hx rfl (hb hby at_256) ?_
      show Steps p.tables e below (T14.setTop (mkF m 257 #[.val (.int p1), .val (.int (0 : Int32)), .val (.ref b3), .val (.ref w_START), .val (.ref w_START)] [(.int (1 : Int32))])) _
      refine XS.goto X14.here hx rfl (pc0 := 257) (pc' := 261) rfl (hb hby at_257) (by decide) (by decide) ?_
      show Steps p.tables e below (T14.setTop (mkF m 261 #[.val (.int p1), .val (.int (0 : Int32)), .val (.ref b3), .val (.ref w_START), .val (.ref w_START)] [(.int (1 : Int32))])) _
      exact retN X14 hx (t := .boolean) Bd.returns (by simp) (hb hby at_261) hr
    · show Q_rm0 Z p1 wV kV w_START w_TASK w_WAIT w_FORK w_JOIN w_SUCCESS s0u s0t s0k s1u s1t s1k s2u s2t s2k s3u s3t s3k s4u s4t s4k s5u s5t s5k zc h0 n0 _ T14.heap _
      exact ⟨rfl, N14⟩
  · have pre15 : ∀ t, Steps p.tables e below (s₁.setTop (mkF m 7 #[.val (.int p1), .unset, .unset, .unset, .unset] [(.int (1 : Int32))])) t → Steps p.tables e below (s₁.setTop (entryFrame m #[(.int p1)] maxLocals)) t := fun t k => pre1 t (by rw [hk]; exact k)
    obtain ⟨T16, h16, k16, X16, e16, E16, A16, st16⟩ := newP X0 hx hZ (hw _ (List.mem_of_getElem? (i := 1) rfl)) e0 (g := (mkF m 54 #[.val (.int p1), .val (.int (1 : Int32)), .unset, .unset, .unset] [(.int (4 : Int32))])) rfl (hb hby at_54) rfl (by decide) (cap := 4) (by decide) (by decide) (by decide) (by decide)
    obtain ⟨b16, g16⟩ : ∃ z, z = h0.size := ⟨_, rfl⟩
    rw [← g16] at A16 st16
    have V_b16 : Arv Z h16 b16 k16 .char (4 : Int32) [(.int (0 : Int32)), (.int (0 : Int32)), (.int (0 : Int32)), (.int (0 : Int32))] (.int (0 : Int32)) := (Arv.new A16 (by decide)).pad (pad_rep [] (.int (0 : Int32)) 4)
    have g_b16 : n0 ≤ b16 := Nat.le_trans Z0 (Nat.le_of_eq g16.symm)
    have sz_b16 : h0.size ≤ b16 := Nat.le_trans ((Keep.refl h0 [])).1 (Nat.le_of_eq g16.symm)
    have K16 : Keep h0 h16 [] := ((Keep.refl h0 [])).ext E16
    obtain ⟨cl17, Ar17, q17, S17, N17_, H17, G17⟩ := id V_b16
    obtain ⟨T17, h17, X17, e17, W17, st17⟩ := stC X16 hx hZ e16 Ar17 (j := (0 : Int32)) (inb_of S17 ⟨by decide, by decide⟩) (g := (mkF m 60 #[.val (.int p1), .val (.int (1 : Int32)), .unset, .unset, .unset] [(.int (84 : Int32)), (.int (0 : Int32)), (.ref b16), (.ref b16)])) rfl rfl (hb hby at_60)
    have V17 := Arv.set Ar17 q17 S17 N17_ H17 G17 (fits_nar_char _) W17 0 rfl (Nat.le_of_ble_eq_true rfl)
    have K17 : Keep h0 h17 [] := (K16).wr W17 (Or.inr sz_b16)
    have N17 := Fr.snoc X17 N0 g_b16
    obtain ⟨cl18, Ar18, q18, S18, N18_, H18, G18⟩ := id V17
    obtain ⟨T18, h18, X18, e18, W18, st18⟩ := stC X17 hx hZ e17 Ar18 (j := (1 : Int32)) (inb_of S18 ⟨by decide, by decide⟩) (g := (mkF m 65 #[.val (.int p1), .val (.int (1 : Int32)), .unset, .unset, .unset] [(.int (97 : Int32)), (.int (1 : Int32)), (.ref b16), (.ref b16)])) rfl rfl (hb hby at_65)
    have V18 := Arv.set Ar18 q18 S18 N18_ H18 G18 (fits_nar_char _) W18 1 rfl (Nat.le_of_ble_eq_true rfl)
    have K18 : Keep h0 h18 [] := (K17).wr W18 (Or.inr sz_b16)
    have N18 := Fr.snoc X18 N17 g_b16
    obtain ⟨cl19, Ar19, q19, S19, N19_, H19, G19⟩ := id V18
    obtain ⟨T19, h19, X19, e19, W19, st19⟩ := stC X18 hx hZ e18 Ar19 (j := (2 : Int32)) (inb_of S19 ⟨by decide, by decide⟩) (g := (mkF m 70 #[.val (.int p1), .val (.int (1 : Int32)), .unset, .unset, .unset] [(.int (115 : Int32)), (.int (2 : Int32)), (.ref b16), (.ref b16)])) rfl rfl (hb hby at_70)
    have V19 := Arv.set Ar19 q19 S19 N19_ H19 G19 (fits_nar_char _) W19 2 rfl (Nat.le_of_ble_eq_true rfl)
    have K19 : Keep h0 h19 [] := (K18).wr W19 (Or.inr sz_b16)
    have N19 := Fr.snoc X19 N18 g_b16
    obtain ⟨cl20, Ar20, q20, S20, N20_, H20, G20⟩ := id V19
    obtain ⟨T20, h20, X20, e20, W20, st20⟩ := stC X19 hx hZ e19 Ar20 (j := (3 : Int32)) (inb_of S20 ⟨by decide, by decide⟩) (g := (mkF m 75 #[.val (.int p1), .val (.int (1 : Int32)), .unset, .unset, .unset] [(.int (107 : Int32)), (.int (3 : Int32)), (.ref b16), (.ref b16)])) rfl rfl (hb hby at_75)
    have V20 := Arv.set Ar20 q20 S20 N20_ H20 G20 (fits_nar_char _) W20 3 rfl (Nat.le_of_ble_eq_true rfl)
    have K20 : Keep h0 h20 [] := (K19).wr W20 (Or.inr sz_b16)
    have N20 := Fr.snoc X20 N19 g_b16
    obtain ⟨T21, X21, e21, st21⟩ := getS2 X20 hx hZ hown (host := "") (Or.inl (hw _ (List.mem_of_getElem? (i := 71) rfl))) Via.refl e20 (Sta.ext (own_keep_ext K20) S_TASK) (g := (mkF m 77 #[.val (.int p1), .val (.int (1 : Int32)), .val (.ref b16), .unset, .unset] [])) rfl (hb hby at_77)
    obtain ⟨T22, h22, X22, e22, E22, A22, D22, -, st22⟩ := newO X21 hx hZ hown (hw _ (List.mem_of_getElem? (i := 5) rfl)) (hw _ (List.mem_of_getElem? (i := 6) rfl)) (hw _ (List.mem_of_getElem? (i := 7) rfl)) e21 (g := (mkF m 237 #[.val (.int p1), .val (.int (1 : Int32)), .val (.ref b16), .val (.ref w_TASK), .unset] [])) rfl (hb hby at_237) (by decide) (by decide)
    obtain ⟨b22, g22⟩ : ∃ z, z = h20.size := ⟨_, rfl⟩
    rw [← g22] at A22 D22 st22
    have ne_b16_b22 : b16 ≠ b22 := Nat.ne_of_lt (Nat.lt_of_lt_of_le V20.lt (Nat.le_of_eq g22.symm))
    have g_b22 : n0 ≤ b22 := Nat.le_trans (Nat.le_trans Z0 K20.1) (Nat.le_of_eq g22.symm)
    have sz_b22 : h0.size ≤ b22 := Nat.le_trans (K20).1 (Nat.le_of_eq g22.symm)
    have K22 : Keep h0 h22 [] := (K20).ext E22
    have F22_coder : Fld Z h22 b22 "java/lang/String" "coder" "B" (.int (0 : Int32)) := D22 (Or.inr (hw _ (List.mem_of_getElem? (i := 31) rfl))) (ty := .byte) (by decide)
    have F22_value : Fld Z h22 b22 "java/lang/String" "value" "[B" .null := D22 (Or.inr (hw _ (List.mem_of_getElem? (i := 33) rfl))) (ty := (.array .byte)) (by decide)
    have f23 := (V20.ext E22)
    have V24 : Arv Z h22 b16 _ .char (4 : Int32) (cs1.map Value.int) (.int (0 : Int32)) := f23
    have hws : ∀ d ∈ StrChars.Road.words, d.before a0 Z = true := fun d hd => hw d ((by decide +kernel : ∀ d ∈ StrChars.Road.words, d ∈ tables_1) d hd)
    obtain ⟨_, _, ⟨T25, L25, k25, n25⟩, -, X25, ⟨Lc25, hQ25, l25, y25, z25⟩, st25⟩ := X22.specialBack hx (y := (⟨"java/lang/String", "<init>", "([C)V"⟩ : MethodName)) rfl hown (mvT hZ (hw _ (List.mem_of_getElem? (i := 8) rfl))) (mvT hZ (hw _ (List.mem_of_getElem? (i := 9) rfl))) (mvT hZ (hw _ (List.mem_of_getElem? (i := 10) rfl))) (by decide) (StrChars.Road.backV (W := 1) hZ hws (kI := 4) (hw _ (List.mem_of_getElem? (i := 6) rfl)) (cs := cs1) (bs := cs1.map (fun c => c.toInt8.toInt32)) (n := 4) g_b22 (Nat.le_trans Z0 K22.1) A22 F22_value F22_coder V24 (Sta.ext (own_keep_ext K22) S_C) hzc rfl rfl (by decide) (by decide) own_c1 rfl (by decide) (by decide)) (g := (mkF m 242 #[.val (.int p1), .val (.int (1 : Int32)), .val (.ref b16), .val (.ref w_TASK), .unset] [(.ref b16), (.ref b22), (.ref b22)])) rfl (by rw [hml]; rfl) (Steps.refl _) (a := b22) (argsL := [(.ref b16)]) (rest := [(.ref b22)]) (lenOf pd_rm0_0 rfl) rfl (by show 2 * 0 + _ ≤ _; exact Nat.le_of_eq rfl) (hb hby at_242) (fun _ _ => ⟨rfl, e22, (by decide : 2 + 1 ≤ _), (by decide : 8 + 4 ≤ _)⟩)
    dsimp only [Pt.U, Pt.locs, Pt.cells, Pt.slots] at X25 l25 y25 z25 st25 hQ25
    subst l25 y25 z25
    obtain ⟨rfl, N25q, K25q, A25q, C25q, t25, k25, g251, g252, g253, F25q, B25q⟩ := hQ25
    have N25 := Fr.app N20 N25q
    have K25 : Keep h0 T25.heap [] := (K22).trans K25q (allS (Or.inr sz_b22) all0)
    have Xt : Ext h0 T25.heap := own_keep_ext K25
    obtain ⟨_, _, ⟨T26, L26, k26, n26⟩, -, X26, ⟨Lc26, hQ26, l26, y26, z26⟩, st26⟩ := Jvm.LawKit.callS X25 hx (y := (⟨"com/example/nevermind/nevermind/graphs/NodeType", "fromWireName", "(Ljava/lang/String;)Lcom/example/nevermind/nevermind/graphs/NodeType;"⟩ : MethodName)) hown (mvT hZ (hw _ (List.mem_of_getElem? (i := 34) rfl))) (mvT hZ (hw _ (List.mem_of_getElem? (i := 35) rfl))) (mvT hZ (hw _ (List.mem_of_getElem? (i := 3) rfl))) (mvT hZ (hw _ (List.mem_of_getElem? (i := 36) rfl))) (by decide) (backOf (W := 0) (rmF1 l Z a0 hw [] b22 t25 k25 wV kV w_START w_TASK w_WAIT w_FORK w_JOIN w_SUCCESS s0u s0t s0k s1u s1t s1k s2u s2t s2k s3u s3t s3k s4u s4t s4k s5u s5t s5k zc T25.heap n0 (Nat.le_trans Z0 K25.1) A25q F25q C25q B25q (Sta.ext Xt S_V) (V_V.ext Xt) (Exa.ext Xt E_V) (Fld.ext Xt s0F) (Exa.ext Xt s0E) (Fld.ext Xt s0V) (Fld.ext Xt s0C) (s0K.ext Xt) (Fld.ext Xt s1F) (Exa.ext Xt s1E) (Fld.ext Xt s1V) (Fld.ext Xt s1C) (s1K.ext Xt) (Fld.ext Xt s2F) (Exa.ext Xt s2E) (Fld.ext Xt s2V) (Fld.ext Xt s2C) (s2K.ext Xt) (Fld.ext Xt s3F) (Exa.ext Xt s3E) (Fld.ext Xt s3V) (Fld.ext Xt s3C) (s3K.ext Xt) (Fld.ext Xt s4F) (Exa.ext Xt s4E) (Fld.ext Xt s4V) (Fld.ext Xt s4C) (s4K.ext Xt) (Fld.ext Xt s5F) (Exa.ext Xt s5E) (Fld.ext Xt s5V) (Fld.ext Xt s5C) (s5K.ext Xt) (Sta.ext Xt S_C) hzc) hZ (hw _ (List.mem_of_getElem? (i := 36) rfl)) (hw _ (List.mem_of_getElem? (i := 3) rfl)) (by decide) (by decide)) (g := (mkF m 245 #[.val (.int p1), .val (.int (1 : Int32)), .val (.ref b16), .val (.ref w_TASK), .unset] [(.ref b22)])) rfl (by rw [hml]; rfl) (argsL := [(.ref b22)]) (rest := []) (lenOf pd_rm0_1 rfl) rfl (by show 2 * 0 + _ ≤ _; exact Nat.le_of_eq rfl) (hb hby at_245) (fun _ _ => ⟨rfl, rfl, (by decide : 3 + 1 ≤ _), (by decide : 12 + 6 ≤ _)⟩)
    dsimp only [Pt.U, Pt.locs, Pt.cells, Pt.slots] at X26 l26 y26 z26 st26 hQ26
    subst l26 y26 z26
    obtain ⟨rfl, N26q, E26q⟩ := hQ26
    have N26 := Fr.app N25 N26q
    obtain ⟨fs, hr, hrun, hended, hW, hsame⟩ := X26.leave (v := some (.int (1 : Int32))) (fun h => by rw [Bd.returns] at h; cases h)
    refine ⟨_, _, pre15 _ ?_, hrun, hended, _, _, rfl, ?_, ⟨_, rfl⟩, hW, hsame.mono (by decide) (by decide)⟩
    · show Steps p.tables e below (s₁.setTop (mkF m 7 #[.val (.int p1), .unset, .unset, .unset, .unset] [(.int (1 : Int32))])) _
      refine XS.istoreN X0.here hx rfl (hb hby at_7) rfl (l' := #[.val (.int p1), .val (.int (1 : Int32)), .unset, .unset, .unset]) rfl ?_
      show Steps p.tables e below (s₁.setTop (mkF m 8 #[.val (.int p1), .val (.int (1 : Int32)), .unset, .unset, .unset] [])) _
      refine XS.iloadN X0.here hx rfl (hb hby at_8) rfl ?_
      show Steps p.tables e below (s₁.setTop (mkF m 9 #[.val (.int p1), .val (.int (1 : Int32)), .unset, .unset, .unset] [(.int (1 : Int32))])) _
      refine XS.ifYes X0.here hx rfl (pc0 := 9) (pc' := 48) rfl (hb hby at_9) rfl ((if0 _ _).trans (feq (by decide : ¬ ((1 : Int32) = (0 : Int32)))).2) (by decide) (by decide) ?_
      show Steps p.tables e below (s₁.setTop (mkF m 48 #[.val (.int p1), .val (.int (1 : Int32)), .unset, .unset, .unset] [])) _
      refine XS.iloadN X0.here hx rfl (hb hby at_48) rfl ?_
      show Steps p.tables e below (s₁.setTop (mkF m 49 #[.val (.int p1), .val (.int (1 : Int32)), .unset, .unset, .unset] [(.int (1 : Int32))])) _
      refine XS.iconst X0.here hx rfl (hb hby at_49) ?_
      show Steps p.tables e below (s₁.setTop (mkF m 50 #[.val (.int p1), .val (.int (1 : Int32)), .unset, .unset, .unset] [(.int (1 : Int32)), (.int (1 : Int32))])) _
      refine XS.icmpNo X0.here hx rfl (hb hby at_50) rfl (teq (rfl : (1 : Int32) = (1 : Int32))).2 ?_
      show Steps p.tables e below (s₁.setTop (mkF m 53 #[.val (.int p1), .val (.int (1 : Int32)), .unset, .unset, .unset] [])) _
      refine XS.iconst X0.here hx rfl (hb hby at_53) ?_
      show Steps p.tables e below (s₁.setTop (mkF m 54 #[.val (.int p1), .val (.int (1 : Int32)), .unset, .unset, .unset] [(.int (4 : Int32))])) _
      refine st16 _ ?_
      show Steps p.tables e below (T16.setTop (mkF m 56 #[.val (.int p1), .val (.int (1 : Int32)), .unset, .unset, .unset] [(.ref b16)])) _
      refine XS.dup X16.here hx rfl (hb hby at_56) rfl rfl ?_
      show Steps p.tables e below (T16.setTop (mkF m 57 #[.val (.int p1), .val (.int (1 : Int32)), .unset, .unset, .unset] [(.ref b16), (.ref b16)])) _
      refine XS.iconst X16.here hx rfl (hb hby at_57) ?_
      show Steps p.tables e below (T16.setTop (mkF m 58 #[.val (.int p1), .val (.int (1 : Int32)), .unset, .unset, .unset] [(.int (0 : Int32)), (.ref b16), (.ref b16)])) _
      refine XS.bipush X16.here hx rfl (hb hby at_58) ?_
      show Steps p.tables e below (T16.setTop (mkF m 60 #[.val (.int p1), .val (.int (1 : Int32)), .unset, .unset, .unset] [(.int (84 : Int32)), (.int (0 : Int32)), (.ref b16), (.ref b16)])) _
      refine st17 _ ?_
      show Steps p.tables e below (T17.setTop (mkF m 61 #[.val (.int p1), .val (.int (1 : Int32)), .unset, .unset, .unset] [(.ref b16)])) _
      refine XS.dup X17.here hx rfl (hb hby at_61) rfl rfl ?_
      show Steps p.tables e below (T17.setTop (mkF m 62 #[.val (.int p1), .val (.int (1 : Int32)), .unset, .unset, .unset] [(.ref b16), (.ref b16)])) _
      refine XS.iconst X17.here hx rfl (hb hby at_62) ?_
      show Steps p.tables e below (T17.setTop (mkF m 63 #[.val (.int p1), .val (.int (1 : Int32)), .unset, .unset, .unset] [(.int (1 : Int32)), (.ref b16), (.ref b16)])) _
      refine XS.bipush X17.here hx rfl (hb hby at_63) ?_
      show Steps p.tables e below (T17.setTop (mkF m 65 #[.val (.int p1), .val (.int (1 : Int32)), .unset, .unset, .unset] [(.int (97 : Int32)), (.int (1 : Int32)), (.ref b16), (.ref b16)])) _
      refine st18 _ ?_
      show Steps p.tables e below (T18.setTop (mkF m 66 #[.val (.int p1), .val (.int (1 : Int32)), .unset, .unset, .unset] [(.ref b16)])) _
      refine XS.dup X18.here hx rfl (hb hby at_66) rfl rfl ?_
      show Steps p.tables e below (T18.setTop (mkF m 67 #[.val (.int p1), .val (.int (1 : Int32)), .unset, .unset, .unset] [(.ref b16), (.ref b16)])) _
      refine XS.iconst X18.here hx rfl (hb hby at_67) ?_
      show Steps p.tables e below (T18.setTop (mkF m 68 #[.val (.int p1), .val (.int (1 : Int32)), .unset, .unset, .unset] [(.int (2 : Int32)), (.ref b16), (.ref b16)])) _
      refine XS.bipush X18.here hx rfl (hb hby at_68) ?_
      show Steps p.tables e below (T18.setTop (mkF m 70 #[.val (.int p1), .val (.int (1 : Int32)), .unset, .unset, .unset] [(.int (115 : Int32)), (.int (2 : Int32)), (.ref b16), (.ref b16)])) _
      refine st19 _ ?_
      show Steps p.tables e below (T19.setTop (mkF m 71 #[.val (.int p1), .val (.int (1 : Int32)), .unset, .unset, .unset] [(.ref b16)])) _
      refine XS.dup X19.here hx rfl (hb hby at_71) rfl rfl ?_
      show Steps p.tables e below (T19.setTop (mkF m 72 #[.val (.int p1), .val (.int (1 : Int32)), .unset, .unset, .unset] [(.ref b16), (.ref b16)])) _
      refine XS.iconst X19.here hx rfl (hb hby at_72) ?_
      show Steps p.tables e below (T19.setTop (mkF m 73 #[.val (.int p1), .val (.int (1 : Int32)), .unset, .unset, .unset] [(.int (3 : Int32)), (.ref b16), (.ref b16)])) _
      refine XS.bipush X19.here hx rfl (hb hby at_73) ?_
      show Steps p.tables e below (T19.setTop (mkF m 75 #[.val (.int p1), .val (.int (1 : Int32)), .unset, .unset, .unset] [(.int (107 : Int32)), (.int (3 : Int32)), (.ref b16), (.ref b16)])) _
      refine st20 _ ?_
      show Steps p.tables e below (T20.setTop (mkF m 76 #[.val (.int p1), .val (.int (1 : Int32)), .unset, .unset, .unset] [(.ref b16)])) _
      refine XS.astoreN X20.here hx rfl (hb hby at_76) rfl rfl (l' := #[.val (.int p1), .val (.int (1 : Int32)), .val (.ref b16), .unset, .unset]) rfl ?_
      show Steps p.tables e below (T20.setTop (mkF m 77 #[.val (.int p1), .val (.int (1 : Int32)), .val (.ref b16), .unset, .unset] [])) _
      refine st21 _ ?_
      show Steps p.tables e below (T21.setTop (mkF m 80 #[.val (.int p1), .val (.int (1 : Int32)), .val (.ref b16), .unset, .unset] [(.ref w_TASK)])) _
      refine XS.astoreN X21.here hx rfl (hb hby at_80) rfl rfl (l' := #[.val (.int p1), .val (.int (1 : Int32)), .val (.ref b16), .val (.ref w_TASK), .unset]) rfl ?_
      show Steps p.tables e below (T21.setTop (mkF m 81 #[.val (.int p1), .val (.int (1 : Int32)), .val (.ref b16), .val (.ref w_TASK), .unset] [])) _
      refine XS.goto X21.here hx rfl (pc0 := 81) (pc' := 237) rfl (hb hby at_81) (by decide) (by decide) ?_
      show Steps p.tables e below (T21.setTop (mkF m 237 #[.val (.int p1), .val (.int (1 : Int32)), .val (.ref b16), .val (.ref w_TASK), .unset] [])) _
      refine st22 _ ?_
      show Steps p.tables e below (T22.setTop (mkF m 240 #[.val (.int p1), .val (.int (1 : Int32)), .val (.ref b16), .val (.ref w_TASK), .unset] [(.ref b22)])) _
      refine XS.dup X22.here hx rfl (hb hby at_240) rfl rfl ?_
      show Steps p.tables e below (T22.setTop (mkF m 241 #[.val (.int p1), .val (.int (1 : Int32)), .val (.ref b16), .val (.ref w_TASK), .unset] [(.ref b22), (.ref b22)])) _
      refine XS.aloadN X22.here hx rfl (hb hby at_241) rfl rfl ?_
      show Steps p.tables e below (T22.setTop (mkF m 242 #[.val (.int p1), .val (.int (1 : Int32)), .val (.ref b16), .val (.ref w_TASK), .unset] [(.ref b16), (.ref b22), (.ref b22)])) _
      refine st25.trans ?_
      show Steps p.tables e below (T25.setTop (mkF m 245 #[.val (.int p1), .val (.int (1 : Int32)), .val (.ref b16), .val (.ref w_TASK), .unset] [(.ref b22)])) _
      refine st26 _ ?_
      show Steps p.tables e below (T26.setTop (mkF m 248 #[.val (.int p1), .val (.int (1 : Int32)), .val (.ref b16), .val (.ref w_TASK), .unset] [(.ref w_TASK)])) _
      refine XS.astore X26.here hx rfl (hb hby at_248) rfl rfl (l' := #[.val (.int p1), .val (.int (1 : Int32)), .val (.ref b16), .val (.ref w_TASK), .val (.ref w_TASK)]) rfl ?_
      show Steps p.tables e below (T26.setTop (mkF m 250 #[.val (.int p1), .val (.int (1 : Int32)), .val (.ref b16), .val (.ref w_TASK), .val (.ref w_TASK)] [])) _
      refine XS.aload X26.here hx rfl (hb hby at_250) rfl rfl ?_
      show Steps p.tables e below (T26.setTop (mkF m 252 #[.val (.int p1), .val (.int (1 : Int32)), .val (.ref b16), .val (.ref w_TASK), .val (.ref w_TASK)] [(.ref w_TASK)])) _
      refine XS.aloadN X26.here hx rfl (hb hby at_252) rfl rfl ?_
      show Steps p.tables e below (T26.setTop (mkF m 253 #[.val (.int p1), .val (.int (1 : Int32)), .val (.ref b16), .val (.ref w_TASK), .val (.ref w_TASK)] [(.ref w_TASK), (.ref w_TASK)])) _
      refine Jvm.RoadKit.acmp (g := (mkF m 253 #[.val (.int p1), .val (.int (1 : Int32)), .val (.ref b16), .val (.ref w_TASK), .val (.ref w_TASK)] [(.ref w_TASK), (.ref w_TASK)])) X26 hx rfl rfl rfl (pc0 := 253) (pc' := 256) (same := true) rfl (hb hby at_253) rfl (decide_eq_true rfl) (by decide) (by decide) ?_
      show Steps p.tables e below (T26.setTop (mkF m 256 #[.val (.int p1), .val (.int (1 : Int32)), .val (.ref b16), .val (.ref w_TASK), .val (.ref w_TASK)] [])) _
      refine XS.iconst X26.here hx rfl (hb hby at_256) ?_
      show Steps p.tables e below (T26.setTop (mkF m 257 #[.val (.int p1), .val (.int (1 : Int32)), .val (.ref b16), .val (.ref w_TASK), .val (.ref w_TASK)] [(.int (1 : Int32))])) _
      refine XS.goto X26.here hx rfl (pc0 := 257) (pc' := 261) rfl (hb hby at_257) (by decide) (by decide) ?_
      show Steps p.tables e below (T26.setTop (mkF m 261 #[.val (.int p1), .val (.int (1 : Int32)), .val (.ref b16), .val (.ref w_TASK), .val (.ref w_TASK)] [(.int (1 : Int32))])) _
      exact retN X26 hx (t := .boolean) Bd.returns (by simp) (hb hby at_261) hr
    · show Q_rm0 Z p1 wV kV w_START w_TASK w_WAIT w_FORK w_JOIN w_SUCCESS s0u s0t s0k s1u s1t s1k s2u s2t s2k s3u s3t s3k s4u s4t s4k s5u s5t s5k zc h0 n0 _ T26.heap _
      exact ⟨rfl, N26⟩
  · have pre27 : ∀ t, Steps p.tables e below (s₁.setTop (mkF m 7 #[.val (.int p1), .unset, .unset, .unset, .unset] [(.int (2 : Int32))])) t → Steps p.tables e below (s₁.setTop (entryFrame m #[(.int p1)] maxLocals)) t := fun t k => pre1 t (by rw [hk]; exact k)
    obtain ⟨T28, h28, k28, X28, e28, E28, A28, st28⟩ := newP X0 hx hZ (hw _ (List.mem_of_getElem? (i := 1) rfl)) e0 (g := (mkF m 90 #[.val (.int p1), .val (.int (2 : Int32)), .unset, .unset, .unset] [(.int (4 : Int32))])) rfl (hb hby at_90) rfl (by decide) (cap := 4) (by decide) (by decide) (by decide) (by decide)
    obtain ⟨b28, g28⟩ : ∃ z, z = h0.size := ⟨_, rfl⟩
    rw [← g28] at A28 st28
    have V_b28 : Arv Z h28 b28 k28 .char (4 : Int32) [(.int (0 : Int32)), (.int (0 : Int32)), (.int (0 : Int32)), (.int (0 : Int32))] (.int (0 : Int32)) := (Arv.new A28 (by decide)).pad (pad_rep [] (.int (0 : Int32)) 4)
    have g_b28 : n0 ≤ b28 := Nat.le_trans Z0 (Nat.le_of_eq g28.symm)
    have sz_b28 : h0.size ≤ b28 := Nat.le_trans ((Keep.refl h0 [])).1 (Nat.le_of_eq g28.symm)
    have K28 : Keep h0 h28 [] := ((Keep.refl h0 [])).ext E28
    obtain ⟨cl29, Ar29, q29, S29, N29_, H29, G29⟩ := id V_b28
    obtain ⟨T29, h29, X29, e29, W29, st29⟩ := stC X28 hx hZ e28 Ar29 (j := (0 : Int32)) (inb_of S29 ⟨by decide, by decide⟩) (g := (mkF m 96 #[.val (.int p1), .val (.int (2 : Int32)), .unset, .unset, .unset] [(.int (87 : Int32)), (.int (0 : Int32)), (.ref b28), (.ref b28)])) rfl rfl (hb hby at_96)
    have V29 := Arv.set Ar29 q29 S29 N29_ H29 G29 (fits_nar_char _) W29 0 rfl (Nat.le_of_ble_eq_true rfl)
    have K29 : Keep h0 h29 [] := (K28).wr W29 (Or.inr sz_b28)
    have N29 := Fr.snoc X29 N0 g_b28
    obtain ⟨cl30, Ar30, q30, S30, N30_, H30, G30⟩ := id V29
    obtain ⟨T30, h30, X30, e30, W30, st30⟩ := stC X29 hx hZ e29 Ar30 (j := (1 : Int32)) (inb_of S30 ⟨by decide, by decide⟩) (g := (mkF m 101 #[.val (.int p1), .val (.int (2 : Int32)), .unset, .unset, .unset] [(.int (97 : Int32)), (.int (1 : Int32)), (.ref b28), (.ref b28)])) rfl rfl (hb hby at_101)
    have V30 := Arv.set Ar30 q30 S30 N30_ H30 G30 (fits_nar_char _) W30 1 rfl (Nat.le_of_ble_eq_true rfl)
    have K30 : Keep h0 h30 [] := (K29).wr W30 (Or.inr sz_b28)
    have N30 := Fr.snoc X30 N29 g_b28
    obtain ⟨cl31, Ar31, q31, S31, N31_, H31, G31⟩ := id V30
    obtain ⟨T31, h31, X31, e31, W31, st31⟩ := stC X30 hx hZ e30 Ar31 (j := (2 : Int32)) (inb_of S31 ⟨by decide, by decide⟩) (g := (mkF m 106 #[.val (.int p1), .val (.int (2 : Int32)), .unset, .unset, .unset] [(.int (105 : Int32)), (.int (2 : Int32)), (.ref b28), (.ref b28)])) rfl rfl (hb hby at_106)
    have V31 := Arv.set Ar31 q31 S31 N31_ H31 G31 (fits_nar_char _) W31 2 rfl (Nat.le_of_ble_eq_true rfl)
    have K31 : Keep h0 h31 [] := (K30).wr W31 (Or.inr sz_b28)
    have N31 := Fr.snoc X31 N30 g_b28
    obtain ⟨cl32, Ar32, q32, S32, N32_, H32, G32⟩ := id V31
    obtain ⟨T32, h32, X32, e32, W32, st32⟩ := stC X31 hx hZ e31 Ar32 (j := (3 : Int32)) (inb_of S32 ⟨by decide, by decide⟩) (g := (mkF m 111 #[.val (.int p1), .val (.int (2 : Int32)), .unset, .unset, .unset] [(.int (116 : Int32)), (.int (3 : Int32)), (.ref b28), (.ref b28)])) rfl rfl (hb hby at_111)
    have V32 := Arv.set Ar32 q32 S32 N32_ H32 G32 (fits_nar_char _) W32 3 rfl (Nat.le_of_ble_eq_true rfl)
    have K32 : Keep h0 h32 [] := (K31).wr W32 (Or.inr sz_b28)
    have N32 := Fr.snoc X32 N31 g_b28
    obtain ⟨T33, X33, e33, st33⟩ := getS2 X32 hx hZ hown (host := "") (Or.inl (hw _ (List.mem_of_getElem? (i := 70) rfl))) Via.refl e32 (Sta.ext (own_keep_ext K32) S_WAIT) (g := (mkF m 113 #[.val (.int p1), .val (.int (2 : Int32)), .val (.ref b28), .unset, .unset] [])) rfl (hb hby at_113)
    obtain ⟨T34, h34, X34, e34, E34, A34, D34, -, st34⟩ := newO X33 hx hZ hown (hw _ (List.mem_of_getElem? (i := 5) rfl)) (hw _ (List.mem_of_getElem? (i := 6) rfl)) (hw _ (List.mem_of_getElem? (i := 7) rfl)) e33 (g := (mkF m 237 #[.val (.int p1), .val (.int (2 : Int32)), .val (.ref b28), .val (.ref w_WAIT), .unset] [])) rfl (hb hby at_237) (by decide) (by decide)
    obtain ⟨b34, g34⟩ : ∃ z, z = h32.size := ⟨_, rfl⟩
    rw [← g34] at A34 D34 st34
    have ne_b28_b34 : b28 ≠ b34 := Nat.ne_of_lt (Nat.lt_of_lt_of_le V32.lt (Nat.le_of_eq g34.symm))
    have g_b34 : n0 ≤ b34 := Nat.le_trans (Nat.le_trans Z0 K32.1) (Nat.le_of_eq g34.symm)
    have sz_b34 : h0.size ≤ b34 := Nat.le_trans (K32).1 (Nat.le_of_eq g34.symm)
    have K34 : Keep h0 h34 [] := (K32).ext E34
    have F34_coder : Fld Z h34 b34 "java/lang/String" "coder" "B" (.int (0 : Int32)) := D34 (Or.inr (hw _ (List.mem_of_getElem? (i := 31) rfl))) (ty := .byte) (by decide)
    have F34_value : Fld Z h34 b34 "java/lang/String" "value" "[B" .null := D34 (Or.inr (hw _ (List.mem_of_getElem? (i := 33) rfl))) (ty := (.array .byte)) (by decide)
    have f35 := (V32.ext E34)
    have V36 : Arv Z h34 b28 _ .char (4 : Int32) (cs2.map Value.int) (.int (0 : Int32)) := f35
    have hws : ∀ d ∈ StrChars.Road.words, d.before a0 Z = true := fun d hd => hw d ((by decide +kernel : ∀ d ∈ StrChars.Road.words, d ∈ tables_1) d hd)
    obtain ⟨_, _, ⟨T37, L37, k37, n37⟩, -, X37, ⟨Lc37, hQ37, l37, y37, z37⟩, st37⟩ := X34.specialBack hx (y := (⟨"java/lang/String", "<init>", "([C)V"⟩ : MethodName)) rfl hown (mvT hZ (hw _ (List.mem_of_getElem? (i := 8) rfl))) (mvT hZ (hw _ (List.mem_of_getElem? (i := 9) rfl))) (mvT hZ (hw _ (List.mem_of_getElem? (i := 10) rfl))) (by decide) (StrChars.Road.backV (W := 1) hZ hws (kI := 4) (hw _ (List.mem_of_getElem? (i := 6) rfl)) (cs := cs2) (bs := cs2.map (fun c => c.toInt8.toInt32)) (n := 4) g_b34 (Nat.le_trans Z0 K34.1) A34 F34_value F34_coder V36 (Sta.ext (own_keep_ext K34) S_C) hzc rfl rfl (by decide) (by decide) own_c2 rfl (by decide) (by decide)) (g := (mkF m 242 #[.val (.int p1), .val (.int (2 : Int32)), .val (.ref b28), .val (.ref w_WAIT), .unset] [(.ref b28), (.ref b34), (.ref b34)])) rfl (by rw [hml]; rfl) (Steps.refl _) (a := b34) (argsL := [(.ref b28)]) (rest := [(.ref b34)]) (lenOf pd_rm0_0 rfl) rfl (by show 2 * 0 + _ ≤ _; exact Nat.le_of_eq rfl) (hb hby at_242) (fun _ _ => ⟨rfl, e34, (by decide : 2 + 1 ≤ _), (by decide : 8 + 4 ≤ _)⟩)
    dsimp only [Pt.U, Pt.locs, Pt.cells, Pt.slots] at X37 l37 y37 z37 st37 hQ37
    subst l37 y37 z37
    obtain ⟨rfl, N37q, K37q, A37q, C37q, t37, k37, g371, g372, g373, F37q, B37q⟩ := hQ37
    have N37 := Fr.app N32 N37q
    have K37 : Keep h0 T37.heap [] := (K34).trans K37q (allS (Or.inr sz_b34) all0)
    have Xt : Ext h0 T37.heap := own_keep_ext K37
    obtain ⟨_, _, ⟨T38, L38, k38, n38⟩, -, X38, ⟨Lc38, hQ38, l38, y38, z38⟩, st38⟩ := Jvm.LawKit.callS X37 hx (y := (⟨"com/example/nevermind/nevermind/graphs/NodeType", "fromWireName", "(Ljava/lang/String;)Lcom/example/nevermind/nevermind/graphs/NodeType;"⟩ : MethodName)) hown (mvT hZ (hw _ (List.mem_of_getElem? (i := 34) rfl))) (mvT hZ (hw _ (List.mem_of_getElem? (i := 35) rfl))) (mvT hZ (hw _ (List.mem_of_getElem? (i := 3) rfl))) (mvT hZ (hw _ (List.mem_of_getElem? (i := 36) rfl))) (by decide) (backOf (W := 0) (rmF2 l Z a0 hw [] b34 t37 k37 wV kV w_START w_TASK w_WAIT w_FORK w_JOIN w_SUCCESS s0u s0t s0k s1u s1t s1k s2u s2t s2k s3u s3t s3k s4u s4t s4k s5u s5t s5k zc T37.heap n0 (Nat.le_trans Z0 K37.1) A37q F37q C37q B37q (Sta.ext Xt S_V) (V_V.ext Xt) (Exa.ext Xt E_V) (Fld.ext Xt s0F) (Exa.ext Xt s0E) (Fld.ext Xt s0V) (Fld.ext Xt s0C) (s0K.ext Xt) (Fld.ext Xt s1F) (Exa.ext Xt s1E) (Fld.ext Xt s1V) (Fld.ext Xt s1C) (s1K.ext Xt) (Fld.ext Xt s2F) (Exa.ext Xt s2E) (Fld.ext Xt s2V) (Fld.ext Xt s2C) (s2K.ext Xt) (Fld.ext Xt s3F) (Exa.ext Xt s3E) (Fld.ext Xt s3V) (Fld.ext Xt s3C) (s3K.ext Xt) (Fld.ext Xt s4F) (Exa.ext Xt s4E) (Fld.ext Xt s4V) (Fld.ext Xt s4C) (s4K.ext Xt) (Fld.ext Xt s5F) (Exa.ext Xt s5E) (Fld.ext Xt s5V) (Fld.ext Xt s5C) (s5K.ext Xt) (Sta.ext Xt S_C) hzc) hZ (hw _ (List.mem_of_getElem? (i := 36) rfl)) (hw _ (List.mem_of_getElem? (i := 3) rfl)) (by decide) (by decide)) (g := (mkF m 245 #[.val (.int p1), .val (.int (2 : Int32)), .val (.ref b28), .val (.ref w_WAIT), .unset] [(.ref b34)])) rfl (by rw [hml]; rfl) (argsL := [(.ref b34)]) (rest := []) (lenOf pd_rm0_1 rfl) rfl (by show 2 * 0 + _ ≤ _; exact Nat.le_of_eq rfl) (hb hby at_245) (fun _ _ => ⟨rfl, rfl, (by decide : 3 + 1 ≤ _), (by decide : 12 + 6 ≤ _)⟩)
    dsimp only [Pt.U, Pt.locs, Pt.cells, Pt.slots] at X38 l38 y38 z38 st38 hQ38
    subst l38 y38 z38
    obtain ⟨rfl, N38q, E38q⟩ := hQ38
    have N38 := Fr.app N37 N38q
    obtain ⟨fs, hr, hrun, hended, hW, hsame⟩ := X38.leave (v := some (.int (1 : Int32))) (fun h => by rw [Bd.returns] at h; cases h)
    refine ⟨_, _, pre27 _ ?_, hrun, hended, _, _, rfl, ?_, ⟨_, rfl⟩, hW, hsame.mono (by decide) (by decide)⟩
    · show Steps p.tables e below (s₁.setTop (mkF m 7 #[.val (.int p1), .unset, .unset, .unset, .unset] [(.int (2 : Int32))])) _
      refine XS.istoreN X0.here hx rfl (hb hby at_7) rfl (l' := #[.val (.int p1), .val (.int (2 : Int32)), .unset, .unset, .unset]) rfl ?_
      show Steps p.tables e below (s₁.setTop (mkF m 8 #[.val (.int p1), .val (.int (2 : Int32)), .unset, .unset, .unset] [])) _
      refine XS.iloadN X0.here hx rfl (hb hby at_8) rfl ?_
      show Steps p.tables e below (s₁.setTop (mkF m 9 #[.val (.int p1), .val (.int (2 : Int32)), .unset, .unset, .unset] [(.int (2 : Int32))])) _
      refine XS.ifYes X0.here hx rfl (pc0 := 9) (pc' := 48) rfl (hb hby at_9) rfl ((if0 _ _).trans (feq (by decide : ¬ ((2 : Int32) = (0 : Int32)))).2) (by decide) (by decide) ?_
      show Steps p.tables e below (s₁.setTop (mkF m 48 #[.val (.int p1), .val (.int (2 : Int32)), .unset, .unset, .unset] [])) _
      refine XS.iloadN X0.here hx rfl (hb hby at_48) rfl ?_
      show Steps p.tables e below (s₁.setTop (mkF m 49 #[.val (.int p1), .val (.int (2 : Int32)), .unset, .unset, .unset] [(.int (2 : Int32))])) _
      refine XS.iconst X0.here hx rfl (hb hby at_49) ?_
      show Steps p.tables e below (s₁.setTop (mkF m 50 #[.val (.int p1), .val (.int (2 : Int32)), .unset, .unset, .unset] [(.int (1 : Int32)), (.int (2 : Int32))])) _
      refine XS.icmpYes X0.here hx rfl (pc0 := 50) (pc' := 84) rfl (hb hby at_50) rfl (feq (by decide : ¬ ((2 : Int32) = (1 : Int32)))).2 (by decide) (by decide) ?_
      show Steps p.tables e below (s₁.setTop (mkF m 84 #[.val (.int p1), .val (.int (2 : Int32)), .unset, .unset, .unset] [])) _
      refine XS.iloadN X0.here hx rfl (hb hby at_84) rfl ?_
      show Steps p.tables e below (s₁.setTop (mkF m 85 #[.val (.int p1), .val (.int (2 : Int32)), .unset, .unset, .unset] [(.int (2 : Int32))])) _
      refine XS.iconst X0.here hx rfl (hb hby at_85) ?_
      show Steps p.tables e below (s₁.setTop (mkF m 86 #[.val (.int p1), .val (.int (2 : Int32)), .unset, .unset, .unset] [(.int (2 : Int32)), (.int (2 : Int32))])) _
      refine XS.icmpNo X0.here hx rfl (hb hby at_86) rfl (teq (rfl : (2 : Int32) = (2 : Int32))).2 ?_
      show Steps p.tables e below (s₁.setTop (mkF m 89 #[.val (.int p1), .val (.int (2 : Int32)), .unset, .unset, .unset] [])) _
      refine XS.iconst X0.here hx rfl (hb hby at_89) ?_
      show Steps p.tables e below (s₁.setTop (mkF m 90 #[.val (.int p1), .val (.int (2 : Int32)), .unset, .unset, .unset] [(.int (4 : Int32))])) _
      refine st28 _ ?_
      show Steps p.tables e below (T28.setTop (mkF m 92 #[.val (.int p1), .val (.int (2 : Int32)), .unset, .unset, .unset] [(.ref b28)])) _
      refine XS.dup X28.here hx rfl (hb hby at_92) rfl rfl ?_
      show Steps p.tables e below (T28.setTop (mkF m 93 #[.val (.int p1), .val (.int (2 : Int32)), .unset, .unset, .unset] [(.ref b28), (.ref b28)])) _
      refine XS.iconst X28.here hx rfl (hb hby at_93) ?_
      show Steps p.tables e below (T28.setTop (mkF m 94 #[.val (.int p1), .val (.int (2 : Int32)), .unset, .unset, .unset] [(.int (0 : Int32)), (.ref b28), (.ref b28)])) _
      refine XS.bipush X28.here hx rfl (hb hby at_94) ?_
      show Steps p.tables e below (T28.setTop (mkF m 96 #[.val (.int p1), .val (.int (2 : Int32)), .unset, .unset, .unset] [(.int (87 : Int32)), (.int (0 : Int32)), (.ref b28), (.ref b28)])) _
      refine st29 _ ?_
      show Steps p.tables e below (T29.setTop (mkF m 97 #[.val (.int p1), .val (.int (2 : Int32)), .unset, .unset, .unset] [(.ref b28)])) _
      refine XS.dup X29.here hx rfl (hb hby at_97) rfl rfl ?_
      show Steps p.tables e below (T29.setTop (mkF m 98 #[.val (.int p1), .val (.int (2 : Int32)), .unset, .unset, .unset] [(.ref b28), (.ref b28)])) _
      refine XS.iconst X29.here hx rfl (hb hby at_98) ?_
      show Steps p.tables e below (T29.setTop (mkF m 99 #[.val (.int p1), .val (.int (2 : Int32)), .unset, .unset, .unset] [(.int (1 : Int32)), (.ref b28), (.ref b28)])) _
      refine XS.bipush X29.here hx rfl (hb hby at_99) ?_
      show Steps p.tables e below (T29.setTop (mkF m 101 #[.val (.int p1), .val (.int (2 : Int32)), .unset, .unset, .unset] [(.int (97 : Int32)), (.int (1 : Int32)), (.ref b28), (.ref b28)])) _
      refine st30 _ ?_
      show Steps p.tables e below (T30.setTop (mkF m 102 #[.val (.int p1), .val (.int (2 : Int32)), .unset, .unset, .unset] [(.ref b28)])) _
      refine XS.dup X30.here hx rfl (hb hby at_102) rfl rfl ?_
      show Steps p.tables e below (T30.setTop (mkF m 103 #[.val (.int p1), .val (.int (2 : Int32)), .unset, .unset, .unset] [(.ref b28), (.ref b28)])) _
      refine XS.iconst X30.here hx rfl (hb hby at_103) ?_
      show Steps p.tables e below (T30.setTop (mkF m 104 #[.val (.int p1), .val (.int (2 : Int32)), .unset, .unset, .unset] [(.int (2 : Int32)), (.ref b28), (.ref b28)])) _
      refine XS.bipush X30.here hx rfl (hb hby at_104) ?_
      show Steps p.tables e below (T30.setTop (mkF m 106 #[.val (.int p1), .val (.int (2 : Int32)), .unset, .unset, .unset] [(.int (105 : Int32)), (.int (2 : Int32)), (.ref b28), (.ref b28)])) _
      refine st31 _ ?_
      show Steps p.tables e below (T31.setTop (mkF m 107 #[.val (.int p1), .val (.int (2 : Int32)), .unset, .unset, .unset] [(.ref b28)])) _
      refine XS.dup X31.here hx rfl (hb hby at_107) rfl rfl ?_
      show Steps p.tables e below (T31.setTop (mkF m 108 #[.val (.int p1), .val (.int (2 : Int32)), .unset, .unset, .unset] [(.ref b28), (.ref b28)])) _
      refine XS.iconst X31.here hx rfl (hb hby at_108) ?_
      show Steps p.tables e below (T31.setTop (mkF m 109 #[.val (.int p1), .val (.int (2 : Int32)), .unset, .unset, .unset] [(.int (3 : Int32)), (.ref b28), (.ref b28)])) _
      refine XS.bipush X31.here hx rfl (hb hby at_109) ?_
      show Steps p.tables e below (T31.setTop (mkF m 111 #[.val (.int p1), .val (.int (2 : Int32)), .unset, .unset, .unset] [(.int (116 : Int32)), (.int (3 : Int32)), (.ref b28), (.ref b28)])) _
      refine st32 _ ?_
      show Steps p.tables e below (T32.setTop (mkF m 112 #[.val (.int p1), .val (.int (2 : Int32)), .unset, .unset, .unset] [(.ref b28)])) _
      refine XS.astoreN X32.here hx rfl (hb hby at_112) rfl rfl (l' := #[.val (.int p1), .val (.int (2 : Int32)), .val (.ref b28), .unset, .unset]) rfl ?_
      show Steps p.tables e below (T32.setTop (mkF m 113 #[.val (.int p1), .val (.int (2 : Int32)), .val (.ref b28), .unset, .unset] [])) _
      refine st33 _ ?_
      show Steps p.tables e below (T33.setTop (mkF m 116 #[.val (.int p1), .val (.int (2 : Int32)), .val (.ref b28), .unset, .unset] [(.ref w_WAIT)])) _
      refine XS.astoreN X33.here hx rfl (hb hby at_116) rfl rfl (l' := #[.val (.int p1), .val (.int (2 : Int32)), .val (.ref b28), .val (.ref w_WAIT), .unset]) rfl ?_
      show Steps p.tables e below (T33.setTop (mkF m 117 #[.val (.int p1), .val (.int (2 : Int32)), .val (.ref b28), .val (.ref w_WAIT), .unset] [])) _
      refine XS.goto X33.here hx rfl (pc0 := 117) (pc' := 237) rfl (hb hby at_117) (by decide) (by decide) ?_
      show Steps p.tables e below (T33.setTop (mkF m 237 #[.val (.int p1), .val (.int (2 : Int32)), .val (.ref b28), .val (.ref w_WAIT), .unset] [])) _
      refine st34 _ ?_
      show Steps p.tables e below (T34.setTop (mkF m 240 #[.val (.int p1), .val (.int (2 : Int32)), .val (.ref b28), .val (.ref w_WAIT), .unset] [(.ref b34)])) _
      refine XS.dup X34.here hx rfl (hb hby at_240) rfl rfl ?_
      show Steps p.tables e below (T34.setTop (mkF m 241 #[.val (.int p1), .val (.int (2 : Int32)), .val (.ref b28), .val (.ref w_WAIT), .unset] [(.ref b34), (.ref b34)])) _
      refine XS.aloadN X34.here hx rfl (hb hby at_241) rfl rfl ?_
      show Steps p.tables e below (T34.setTop (mkF m 242 #[.val (.int p1), .val (.int (2 : Int32)), .val (.ref b28), .val (.ref w_WAIT), .unset] [(.ref b28), (.ref b34), (.ref b34)])) _
      refine st37.trans ?_
      show Steps p.tables e below (T37.setTop (mkF m 245 #[.val (.int p1), .val (.int (2 : Int32)), .val (.ref b28), .val (.ref w_WAIT), .unset] [(.ref b34)])) _
      refine st38 _ ?_
      show Steps p.tables e below (T38.setTop (mkF m 248 #[.val (.int p1), .val (.int (2 : Int32)), .val (.ref b28), .val (.ref w_WAIT), .unset] [(.ref w_WAIT)])) _
      refine XS.astore X38.here hx rfl (hb hby at_248) rfl rfl (l' := #[.val (.int p1), .val (.int (2 : Int32)), .val (.ref b28), .val (.ref w_WAIT), .val (.ref w_WAIT)]) rfl ?_
      show Steps p.tables e below (T38.setTop (mkF m 250 #[.val (.int p1), .val (.int (2 : Int32)), .val (.ref b28), .val (.ref w_WAIT), .val (.ref w_WAIT)] [])) _
      refine XS.aload X38.here hx rfl (hb hby at_250) rfl rfl ?_
      show Steps p.tables e below (T38.setTop (mkF m 252 #[.val (.int p1), .val (.int (2 : Int32)), .val (.ref b28), .val (.ref w_WAIT), .val (.ref w_WAIT)] [(.ref w_WAIT)])) _
      refine XS.aloadN X38.here hx rfl (hb hby at_252) rfl rfl ?_
      show Steps p.tables e below (T38.setTop (mkF m 253 #[.val (.int p1), .val (.int (2 : Int32)), .val (.ref b28), .val (.ref w_WAIT), .val (.ref w_WAIT)] [(.ref w_WAIT), (.ref w_WAIT)])) _
      refine Jvm.RoadKit.acmp (g := (mkF m 253 #[.val (.int p1), .val (.int (2 : Int32)), .val (.ref b28), .val (.ref w_WAIT), .val (.ref w_WAIT)] [(.ref w_WAIT), (.ref w_WAIT)])) X38 hx rfl rfl rfl (pc0 := 253) (pc' := 256) (same := true) rfl (hb hby at_253) rfl (decide_eq_true rfl) (by decide) (by decide) ?_
      show Steps p.tables e below (T38.setTop (mkF m 256 #[.val (.int p1), .val (.int (2 : Int32)), .val (.ref b28), .val (.ref w_WAIT), .val (.ref w_WAIT)] [])) _
      refine XS.iconst X38.here hx rfl (hb hby at_256) ?_
      show Steps p.tables e below (T38.setTop (mkF m 257 #[.val (.int p1), .val (.int (2 : Int32)), .val (.ref b28), .val (.ref w_WAIT), .val (.ref w_WAIT)] [(.int (1 : Int32))])) _
      refine XS.goto X38.here hx rfl (pc0 := 257) (pc' := 261) rfl (hb hby at_257) (by decide) (by decide) ?_
      show Steps p.tables e below (T38.setTop (mkF m 261 #[.val (.int p1), .val (.int (2 : Int32)), .val (.ref b28), .val (.ref w_WAIT), .val (.ref w_WAIT)] [(.int (1 : Int32))])) _
      exact retN X38 hx (t := .boolean) Bd.returns (by simp) (hb hby at_261) hr
    · show Q_rm0 Z p1 wV kV w_START w_TASK w_WAIT w_FORK w_JOIN w_SUCCESS s0u s0t s0k s1u s1t s1k s2u s2t s2k s3u s3t s3k s4u s4t s4k s5u s5t s5k zc h0 n0 _ T38.heap _
      exact ⟨rfl, N38⟩
  · have pre39 : ∀ t, Steps p.tables e below (s₁.setTop (mkF m 7 #[.val (.int p1), .unset, .unset, .unset, .unset] [(.int (3 : Int32))])) t → Steps p.tables e below (s₁.setTop (entryFrame m #[(.int p1)] maxLocals)) t := fun t k => pre1 t (by rw [hk]; exact k)
    obtain ⟨T40, h40, k40, X40, e40, E40, A40, st40⟩ := newP X0 hx hZ (hw _ (List.mem_of_getElem? (i := 1) rfl)) e0 (g := (mkF m 126 #[.val (.int p1), .val (.int (3 : Int32)), .unset, .unset, .unset] [(.int (4 : Int32))])) rfl (hb hby at_126) rfl (by decide) (cap := 4) (by decide) (by decide) (by decide) (by decide)
    obtain ⟨b40, g40⟩ : ∃ z, z = h0.size := ⟨_, rfl⟩
    rw [← g40] at A40 st40
    have V_b40 : Arv Z h40 b40 k40 .char (4 : Int32) [(.int (0 : Int32)), (.int (0 : Int32)), (.int (0 : Int32)), (.int (0 : Int32))] (.int (0 : Int32)) := (Arv.new A40 (by decide)).pad (pad_rep [] (.int (0 : Int32)) 4)
    have g_b40 : n0 ≤ b40 := Nat.le_trans Z0 (Nat.le_of_eq g40.symm)
    have sz_b40 : h0.size ≤ b40 := Nat.le_trans ((Keep.refl h0 [])).1 (Nat.le_of_eq g40.symm)
    have K40 : Keep h0 h40 [] := ((Keep.refl h0 [])).ext E40
    obtain ⟨cl41, Ar41, q41, S41, N41_, H41, G41⟩ := id V_b40
    obtain ⟨T41, h41, X41, e41, W41, st41⟩ := stC X40 hx hZ e40 Ar41 (j := (0 : Int32)) (inb_of S41 ⟨by decide, by decide⟩) (g := (mkF m 132 #[.val (.int p1), .val (.int (3 : Int32)), .unset, .unset, .unset] [(.int (70 : Int32)), (.int (0 : Int32)), (.ref b40), (.ref b40)])) rfl rfl (hb hby at_132)
    have V41 := Arv.set Ar41 q41 S41 N41_ H41 G41 (fits_nar_char _) W41 0 rfl (Nat.le_of_ble_eq_true rfl)
    have K41 : Keep h0 h41 [] := (K40).wr W41 (Or.inr sz_b40)
    have N41 := Fr.snoc X41 N0 g_b40
    obtain ⟨cl42, Ar42, q42, S42, N42_, H42, G42⟩ := id V41
    obtain ⟨T42, h42, X42, e42, W42, st42⟩ := stC X41 hx hZ e41 Ar42 (j := (1 : Int32)) (inb_of S42 ⟨by decide, by decide⟩) (g := (mkF m 137 #[.val (.int p1), .val (.int (3 : Int32)), .unset, .unset, .unset] [(.int (111 : Int32)), (.int (1 : Int32)), (.ref b40), (.ref b40)])) rfl rfl (hb hby at_137)
    have V42 := Arv.set Ar42 q42 S42 N42_ H42 G42 (fits_nar_char _) W42 1 rfl (Nat.le_of_ble_eq_true rfl)
    have K42 : Keep h0 h42 [] := (K41).wr W42 (Or.inr sz_b40)
    have N42 := Fr.snoc X42 N41 g_b40
    obtain ⟨cl43, Ar43, q43, S43, N43_, H43, G43⟩ := id V42
    obtain ⟨T43, h43, X43, e43, W43, st43⟩ := stC X42 hx hZ e42 Ar43 (j := (2 : Int32)) (inb_of S43 ⟨by decide, by decide⟩) (g := (mkF m 142 #[.val (.int p1), .val (.int (3 : Int32)), .unset, .unset, .unset] [(.int (114 : Int32)), (.int (2 : Int32)), (.ref b40), (.ref b40)])) rfl rfl (hb hby at_142)
    have V43 := Arv.set Ar43 q43 S43 N43_ H43 G43 (fits_nar_char _) W43 2 rfl (Nat.le_of_ble_eq_true rfl)
    have K43 : Keep h0 h43 [] := (K42).wr W43 (Or.inr sz_b40)
    have N43 := Fr.snoc X43 N42 g_b40
    obtain ⟨cl44, Ar44, q44, S44, N44_, H44, G44⟩ := id V43
    obtain ⟨T44, h44, X44, e44, W44, st44⟩ := stC X43 hx hZ e43 Ar44 (j := (3 : Int32)) (inb_of S44 ⟨by decide, by decide⟩) (g := (mkF m 147 #[.val (.int p1), .val (.int (3 : Int32)), .unset, .unset, .unset] [(.int (107 : Int32)), (.int (3 : Int32)), (.ref b40), (.ref b40)])) rfl rfl (hb hby at_147)
    have V44 := Arv.set Ar44 q44 S44 N44_ H44 G44 (fits_nar_char _) W44 3 rfl (Nat.le_of_ble_eq_true rfl)
    have K44 : Keep h0 h44 [] := (K43).wr W44 (Or.inr sz_b40)
    have N44 := Fr.snoc X44 N43 g_b40
    obtain ⟨T45, X45, e45, st45⟩ := getS2 X44 hx hZ hown (host := "") (Or.inl (hw _ (List.mem_of_getElem? (i := 69) rfl))) Via.refl e44 (Sta.ext (own_keep_ext K44) S_FORK) (g := (mkF m 149 #[.val (.int p1), .val (.int (3 : Int32)), .val (.ref b40), .unset, .unset] [])) rfl (hb hby at_149)
    obtain ⟨T46, h46, X46, e46, E46, A46, D46, -, st46⟩ := newO X45 hx hZ hown (hw _ (List.mem_of_getElem? (i := 5) rfl)) (hw _ (List.mem_of_getElem? (i := 6) rfl)) (hw _ (List.mem_of_getElem? (i := 7) rfl)) e45 (g := (mkF m 237 #[.val (.int p1), .val (.int (3 : Int32)), .val (.ref b40), .val (.ref w_FORK), .unset] [])) rfl (hb hby at_237) (by decide) (by decide)
    obtain ⟨b46, g46⟩ : ∃ z, z = h44.size := ⟨_, rfl⟩
    rw [← g46] at A46 D46 st46
    have ne_b40_b46 : b40 ≠ b46 := Nat.ne_of_lt (Nat.lt_of_lt_of_le V44.lt (Nat.le_of_eq g46.symm))
    have g_b46 : n0 ≤ b46 := Nat.le_trans (Nat.le_trans Z0 K44.1) (Nat.le_of_eq g46.symm)
    have sz_b46 : h0.size ≤ b46 := Nat.le_trans (K44).1 (Nat.le_of_eq g46.symm)
    have K46 : Keep h0 h46 [] := (K44).ext E46
    have F46_coder : Fld Z h46 b46 "java/lang/String" "coder" "B" (.int (0 : Int32)) := D46 (Or.inr (hw _ (List.mem_of_getElem? (i := 31) rfl))) (ty := .byte) (by decide)
    have F46_value : Fld Z h46 b46 "java/lang/String" "value" "[B" .null := D46 (Or.inr (hw _ (List.mem_of_getElem? (i := 33) rfl))) (ty := (.array .byte)) (by decide)
    have f47 := (V44.ext E46)
    have V48 : Arv Z h46 b40 _ .char (4 : Int32) (cs3.map Value.int) (.int (0 : Int32)) := f47
    have hws : ∀ d ∈ StrChars.Road.words, d.before a0 Z = true := fun d hd => hw d ((by decide +kernel : ∀ d ∈ StrChars.Road.words, d ∈ tables_1) d hd)
    obtain ⟨_, _, ⟨T49, L49, k49, n49⟩, -, X49, ⟨Lc49, hQ49, l49, y49, z49⟩, st49⟩ := X46.specialBack hx (y := (⟨"java/lang/String", "<init>", "([C)V"⟩ : MethodName)) rfl hown (mvT hZ (hw _ (List.mem_of_getElem? (i := 8) rfl))) (mvT hZ (hw _ (List.mem_of_getElem? (i := 9) rfl))) (mvT hZ (hw _ (List.mem_of_getElem? (i := 10) rfl))) (by decide) (StrChars.Road.backV (W := 1) hZ hws (kI := 4) (hw _ (List.mem_of_getElem? (i := 6) rfl)) (cs := cs3) (bs := cs3.map (fun c => c.toInt8.toInt32)) (n := 4) g_b46 (Nat.le_trans Z0 K46.1) A46 F46_value F46_coder V48 (Sta.ext (own_keep_ext K46) S_C) hzc rfl rfl (by decide) (by decide) own_c3 rfl (by decide) (by decide)) (g := (mkF m 242 #[.val (.int p1), .val (.int (3 : Int32)), .val (.ref b40), .val (.ref w_FORK), .unset] [(.ref b40), (.ref b46), (.ref b46)])) rfl (by rw [hml]; rfl) (Steps.refl _) (a := b46) (argsL := [(.ref b40)]) (rest := [(.ref b46)]) (lenOf pd_rm0_0 rfl) rfl (by show 2 * 0 + _ ≤ _; exact Nat.le_of_eq rfl) (hb hby at_242) (fun _ _ => ⟨rfl, e46, (by decide : 2 + 1 ≤ _), (by decide : 8 + 4 ≤ _)⟩)
    dsimp only [Pt.U, Pt.locs, Pt.cells, Pt.slots] at X49 l49 y49 z49 st49 hQ49
    subst l49 y49 z49
    obtain ⟨rfl, N49q, K49q, A49q, C49q, t49, k49, g491, g492, g493, F49q, B49q⟩ := hQ49
    have N49 := Fr.app N44 N49q
    have K49 : Keep h0 T49.heap [] := (K46).trans K49q (allS (Or.inr sz_b46) all0)
    have Xt : Ext h0 T49.heap := own_keep_ext K49
    obtain ⟨_, _, ⟨T50, L50, k50, n50⟩, -, X50, ⟨Lc50, hQ50, l50, y50, z50⟩, st50⟩ := Jvm.LawKit.callS X49 hx (y := (⟨"com/example/nevermind/nevermind/graphs/NodeType", "fromWireName", "(Ljava/lang/String;)Lcom/example/nevermind/nevermind/graphs/NodeType;"⟩ : MethodName)) hown (mvT hZ (hw _ (List.mem_of_getElem? (i := 34) rfl))) (mvT hZ (hw _ (List.mem_of_getElem? (i := 35) rfl))) (mvT hZ (hw _ (List.mem_of_getElem? (i := 3) rfl))) (mvT hZ (hw _ (List.mem_of_getElem? (i := 36) rfl))) (by decide) (backOf (W := 0) (rmF3 l Z a0 hw [] b46 t49 k49 wV kV w_START w_TASK w_WAIT w_FORK w_JOIN w_SUCCESS s0u s0t s0k s1u s1t s1k s2u s2t s2k s3u s3t s3k s4u s4t s4k s5u s5t s5k zc T49.heap n0 (Nat.le_trans Z0 K49.1) A49q F49q C49q B49q (Sta.ext Xt S_V) (V_V.ext Xt) (Exa.ext Xt E_V) (Fld.ext Xt s0F) (Exa.ext Xt s0E) (Fld.ext Xt s0V) (Fld.ext Xt s0C) (s0K.ext Xt) (Fld.ext Xt s1F) (Exa.ext Xt s1E) (Fld.ext Xt s1V) (Fld.ext Xt s1C) (s1K.ext Xt) (Fld.ext Xt s2F) (Exa.ext Xt s2E) (Fld.ext Xt s2V) (Fld.ext Xt s2C) (s2K.ext Xt) (Fld.ext Xt s3F) (Exa.ext Xt s3E) (Fld.ext Xt s3V) (Fld.ext Xt s3C) (s3K.ext Xt) (Fld.ext Xt s4F) (Exa.ext Xt s4E) (Fld.ext Xt s4V) (Fld.ext Xt s4C) (s4K.ext Xt) (Fld.ext Xt s5F) (Exa.ext Xt s5E) (Fld.ext Xt s5V) (Fld.ext Xt s5C) (s5K.ext Xt) (Sta.ext Xt S_C) hzc) hZ (hw _ (List.mem_of_getElem? (i := 36) rfl)) (hw _ (List.mem_of_getElem? (i := 3) rfl)) (by decide) (by decide)) (g := (mkF m 245 #[.val (.int p1), .val (.int (3 : Int32)), .val (.ref b40), .val (.ref w_FORK), .unset] [(.ref b46)])) rfl (by rw [hml]; rfl) (argsL := [(.ref b46)]) (rest := []) (lenOf pd_rm0_1 rfl) rfl (by show 2 * 0 + _ ≤ _; exact Nat.le_of_eq rfl) (hb hby at_245) (fun _ _ => ⟨rfl, rfl, (by decide : 3 + 1 ≤ _), (by decide : 12 + 6 ≤ _)⟩)
    dsimp only [Pt.U, Pt.locs, Pt.cells, Pt.slots] at X50 l50 y50 z50 st50 hQ50
    subst l50 y50 z50
    obtain ⟨rfl, N50q, E50q⟩ := hQ50
    have N50 := Fr.app N49 N50q
    obtain ⟨fs, hr, hrun, hended, hW, hsame⟩ := X50.leave (v := some (.int (1 : Int32))) (fun h => by rw [Bd.returns] at h; cases h)
    refine ⟨_, _, pre39 _ ?_, hrun, hended, _, _, rfl, ?_, ⟨_, rfl⟩, hW, hsame.mono (by decide) (by decide)⟩
    · show Steps p.tables e below (s₁.setTop (mkF m 7 #[.val (.int p1), .unset, .unset, .unset, .unset] [(.int (3 : Int32))])) _
      refine XS.istoreN X0.here hx rfl (hb hby at_7) rfl (l' := #[.val (.int p1), .val (.int (3 : Int32)), .unset, .unset, .unset]) rfl ?_
      show Steps p.tables e below (s₁.setTop (mkF m 8 #[.val (.int p1), .val (.int (3 : Int32)), .unset, .unset, .unset] [])) _
      refine XS.iloadN X0.here hx rfl (hb hby at_8) rfl ?_
      show Steps p.tables e below (s₁.setTop (mkF m 9 #[.val (.int p1), .val (.int (3 : Int32)), .unset, .unset, .unset] [(.int (3 : Int32))])) _
      refine XS.ifYes X0.here hx rfl (pc0 := 9) (pc' := 48) rfl (hb hby at_9) rfl ((if0 _ _).trans (feq (by decide : ¬ ((3 : Int32) = (0 : Int32)))).2) (by decide) (by decide) ?_
      show Steps p.tables e below (s₁.setTop (mkF m 48 #[.val (.int p1), .val (.int (3 : Int32)), .unset, .unset, .unset] [])) _
      refine XS.iloadN X0.here hx rfl (hb hby at_48) rfl ?_
      show Steps p.tables e below (s₁.setTop (mkF m 49 #[.val (.int p1), .val (.int (3 : Int32)), .unset, .unset, .unset] [(.int (3 : Int32))])) _
      refine XS.iconst X0.here hx rfl (hb hby at_49) ?_
      show Steps p.tables e below (s₁.setTop (mkF m 50 #[.val (.int p1), .val (.int (3 : Int32)), .unset, .unset, .unset] [(.int (1 : Int32)), (.int (3 : Int32))])) _
      refine XS.icmpYes X0.here hx rfl (pc0 := 50) (pc' := 84) rfl (hb hby at_50) rfl (feq (by decide : ¬ ((3 : Int32) = (1 : Int32)))).2 (by decide) (by decide) ?_
      show Steps p.tables e below (s₁.setTop (mkF m 84 #[.val (.int p1), .val (.int (3 : Int32)), .unset, .unset, .unset] [])) _
      refine XS.iloadN X0.here hx rfl (hb hby at_84) rfl ?_
      show Steps p.tables e below (s₁.setTop (mkF m 85 #[.val (.int p1), .val (.int (3 : Int32)), .unset, .unset, .unset] [(.int (3 : Int32))])) _
      refine XS.iconst X0.here hx rfl (hb hby at_85) ?_
      show Steps p.tables e below (s₁.setTop (mkF m 86 #[.val (.int p1), .val (.int (3 : Int32)), .unset, .unset, .unset] [(.int (2 : Int32)), (.int (3 : Int32))])) _
      refine XS.icmpYes X0.here hx rfl (pc0 := 86) (pc' := 120) rfl (hb hby at_86) rfl (feq (by decide : ¬ ((3 : Int32) = (2 : Int32)))).2 (by decide) (by decide) ?_
      show Steps p.tables e below (s₁.setTop (mkF m 120 #[.val (.int p1), .val (.int (3 : Int32)), .unset, .unset, .unset] [])) _
      refine XS.iloadN X0.here hx rfl (hb hby at_120) rfl ?_
      show Steps p.tables e below (s₁.setTop (mkF m 121 #[.val (.int p1), .val (.int (3 : Int32)), .unset, .unset, .unset] [(.int (3 : Int32))])) _
      refine XS.iconst X0.here hx rfl (hb hby at_121) ?_
      show Steps p.tables e below (s₁.setTop (mkF m 122 #[.val (.int p1), .val (.int (3 : Int32)), .unset, .unset, .unset] [(.int (3 : Int32)), (.int (3 : Int32))])) _
      refine XS.icmpNo X0.here hx rfl (hb hby at_122) rfl (teq (rfl : (3 : Int32) = (3 : Int32))).2 ?_
      show Steps p.tables e below (s₁.setTop (mkF m 125 #[.val (.int p1), .val (.int (3 : Int32)), .unset, .unset, .unset] [])) _
      refine XS.iconst X0.here hx rfl (hb hby at_125) ?_
      show Steps p.tables e below (s₁.setTop (mkF m 126 #[.val (.int p1), .val (.int (3 : Int32)), .unset, .unset, .unset] [(.int (4 : Int32))])) _
      refine st40 _ ?_
      show Steps p.tables e below (T40.setTop (mkF m 128 #[.val (.int p1), .val (.int (3 : Int32)), .unset, .unset, .unset] [(.ref b40)])) _
      refine XS.dup X40.here hx rfl (hb hby at_128) rfl rfl ?_
      show Steps p.tables e below (T40.setTop (mkF m 129 #[.val (.int p1), .val (.int (3 : Int32)), .unset, .unset, .unset] [(.ref b40), (.ref b40)])) _
      refine XS.iconst X40.here hx rfl (hb hby at_129) ?_
      show Steps p.tables e below (T40.setTop (mkF m 130 #[.val (.int p1), .val (.int (3 : Int32)), .unset, .unset, .unset] [(.int (0 : Int32)), (.ref b40), (.ref b40)])) _
      refine XS.bipush X40.here hx rfl (hb hby at_130) ?_
      show Steps p.tables e below (T40.setTop (mkF m 132 #[.val (.int p1), .val (.int (3 : Int32)), .unset, .unset, .unset] [(.int (70 : Int32)), (.int (0 : Int32)), (.ref b40), (.ref b40)])) _
      refine st41 _ ?_
      show Steps p.tables e below (T41.setTop (mkF m 133 #[.val (.int p1), .val (.int (3 : Int32)), .unset, .unset, .unset] [(.ref b40)])) _
      refine XS.dup X41.here hx rfl (hb hby at_133) rfl rfl ?_
      show Steps p.tables e below (T41.setTop (mkF m 134 #[.val (.int p1), .val (.int (3 : Int32)), .unset, .unset, .unset] [(.ref b40), (.ref b40)])) _
      refine XS.iconst X41.here hx rfl (hb hby at_134) ?_
      show Steps p.tables e below (T41.setTop (mkF m 135 #[.val (.int p1), .val (.int (3 : Int32)), .unset, .unset, .unset] [(.int (1 : Int32)), (.ref b40), (.ref b40)])) _
      refine XS.bipush X41.here hx rfl (hb hby at_135) ?_
      show Steps p.tables e below (T41.setTop (mkF m 137 #[.val (.int p1), .val (.int (3 : Int32)), .unset, .unset, .unset] [(.int (111 : Int32)), (.int (1 : Int32)), (.ref b40), (.ref b40)])) _
      refine st42 _ ?_
      show Steps p.tables e below (T42.setTop (mkF m 138 #[.val (.int p1), .val (.int (3 : Int32)), .unset, .unset, .unset] [(.ref b40)])) _
      refine XS.dup X42.here hx rfl (hb hby at_138) rfl rfl ?_
      show Steps p.tables e below (T42.setTop (mkF m 139 #[.val (.int p1), .val (.int (3 : Int32)), .unset, .unset, .unset] [(.ref b40), (.ref b40)])) _
      refine XS.iconst X42.here hx rfl (hb hby at_139) ?_
      show Steps p.tables e below (T42.setTop (mkF m 140 #[.val (.int p1), .val (.int (3 : Int32)), .unset, .unset, .unset] [(.int (2 : Int32)), (.ref b40), (.ref b40)])) _
      refine XS.bipush X42.here hx rfl (hb hby at_140) ?_
      show Steps p.tables e below (T42.setTop (mkF m 142 #[.val (.int p1), .val (.int (3 : Int32)), .unset, .unset, .unset] [(.int (114 : Int32)), (.int (2 : Int32)), (.ref b40), (.ref b40)])) _
      refine st43 _ ?_
      show Steps p.tables e below (T43.setTop (mkF m 143 #[.val (.int p1), .val (.int (3 : Int32)), .unset, .unset, .unset] [(.ref b40)])) _
      refine XS.dup X43.here hx rfl (hb hby at_143) rfl rfl ?_
      show Steps p.tables e below (T43.setTop (mkF m 144 #[.val (.int p1), .val (.int (3 : Int32)), .unset, .unset, .unset] [(.ref b40), (.ref b40)])) _
      refine XS.iconst X43.here hx rfl (hb hby at_144) ?_
      show Steps p.tables e below (T43.setTop (mkF m 145 #[.val (.int p1), .val (.int (3 : Int32)), .unset, .unset, .unset] [(.int (3 : Int32)), (.ref b40), (.ref b40)])) _
      refine XS.bipush X43.here hx rfl (hb hby at_145) ?_
      show Steps p.tables e below (T43.setTop (mkF m 147 #[.val (.int p1), .val (.int (3 : Int32)), .unset, .unset, .unset] [(.int (107 : Int32)), (.int (3 : Int32)), (.ref b40), (.ref b40)])) _
      refine st44 _ ?_
      show Steps p.tables e below (T44.setTop (mkF m 148 #[.val (.int p1), .val (.int (3 : Int32)), .unset, .unset, .unset] [(.ref b40)])) _
      refine XS.astoreN X44.here hx rfl (hb hby at_148) rfl rfl (l' := #[.val (.int p1), .val (.int (3 : Int32)), .val (.ref b40), .unset, .unset]) rfl ?_
      show Steps p.tables e below (T44.setTop (mkF m 149 #[.val (.int p1), .val (.int (3 : Int32)), .val (.ref b40), .unset, .unset] [])) _
      refine st45 _ ?_
      show Steps p.tables e below (T45.setTop (mkF m 152 #[.val (.int p1), .val (.int (3 : Int32)), .val (.ref b40), .unset, .unset] [(.ref w_FORK)])) _
      refine XS.astoreN X45.here hx rfl (hb hby at_152) rfl rfl (l' := #[.val (.int p1), .val (.int (3 : Int32)), .val (.ref b40), .val (.ref w_FORK), .unset]) rfl ?_
      show Steps p.tables e below (T45.setTop (mkF m 153 #[.val (.int p1), .val (.int (3 : Int32)), .val (.ref b40), .val (.ref w_FORK), .unset] [])) _
      refine XS.goto X45.here hx rfl (pc0 := 153) (pc' := 237) rfl (hb hby at_153) (by decide) (by decide) ?_
      show Steps p.tables e below (T45.setTop (mkF m 237 #[.val (.int p1), .val (.int (3 : Int32)), .val (.ref b40), .val (.ref w_FORK), .unset] [])) _
      refine st46 _ ?_
      show Steps p.tables e below (T46.setTop (mkF m 240 #[.val (.int p1), .val (.int (3 : Int32)), .val (.ref b40), .val (.ref w_FORK), .unset] [(.ref b46)])) _
      refine XS.dup X46.here hx rfl (hb hby at_240) rfl rfl ?_
      show Steps p.tables e below (T46.setTop (mkF m 241 #[.val (.int p1), .val (.int (3 : Int32)), .val (.ref b40), .val (.ref w_FORK), .unset] [(.ref b46), (.ref b46)])) _
      refine XS.aloadN X46.here hx rfl (hb hby at_241) rfl rfl ?_
      show Steps p.tables e below (T46.setTop (mkF m 242 #[.val (.int p1), .val (.int (3 : Int32)), .val (.ref b40), .val (.ref w_FORK), .unset] [(.ref b40), (.ref b46), (.ref b46)])) _
      refine st49.trans ?_
      show Steps p.tables e below (T49.setTop (mkF m 245 #[.val (.int p1), .val (.int (3 : Int32)), .val (.ref b40), .val (.ref w_FORK), .unset] [(.ref b46)])) _
      refine st50 _ ?_
      show Steps p.tables e below (T50.setTop (mkF m 248 #[.val (.int p1), .val (.int (3 : Int32)), .val (.ref b40), .val (.ref w_FORK), .unset] [(.ref w_FORK)])) _
      refine XS.astore X50.here hx rfl (hb hby at_248) rfl rfl (l' := #[.val (.int p1), .val (.int (3 : Int32)), .val (.ref b40), .val (.ref w_FORK), .val (.ref w_FORK)]) rfl ?_
      show Steps p.tables e below (T50.setTop (mkF m 250 #[.val (.int p1), .val (.int (3 : Int32)), .val (.ref b40), .val (.ref w_FORK), .val (.ref w_FORK)] [])) _
      refine XS.aload X50.here hx rfl (hb hby at_250) rfl rfl ?_
      show Steps p.tables e below (T50.setTop (mkF m 252 #[.val (.int p1), .val (.int (3 : Int32)), .val (.ref b40), .val (.ref w_FORK), .val (.ref w_FORK)] [(.ref w_FORK)])) _
      refine XS.aloadN X50.here hx rfl (hb hby at_252) rfl rfl ?_
      show Steps p.tables e below (T50.setTop (mkF m 253 #[.val (.int p1), .val (.int (3 : Int32)), .val (.ref b40), .val (.ref w_FORK), .val (.ref w_FORK)] [(.ref w_FORK), (.ref w_FORK)])) _
      refine Jvm.RoadKit.acmp (g := (mkF m 253 #[.val (.int p1), .val (.int (3 : Int32)), .val (.ref b40), .val (.ref w_FORK), .val (.ref w_FORK)] [(.ref w_FORK), (.ref w_FORK)])) X50 hx rfl rfl rfl (pc0 := 253) (pc' := 256) (same := true) rfl (hb hby at_253) rfl (decide_eq_true rfl) (by decide) (by decide) ?_
      show Steps p.tables e below (T50.setTop (mkF m 256 #[.val (.int p1), .val (.int (3 : Int32)), .val (.ref b40), .val (.ref w_FORK), .val (.ref w_FORK)] [])) _
      refine XS.iconst X50.here hx rfl (hb hby at_256) ?_
      show Steps p.tables e below (T50.setTop (mkF m 257 #[.val (.int p1), .val (.int (3 : Int32)), .val (.ref b40), .val (.ref w_FORK), .val (.ref w_FORK)] [(.int (1 : Int32))])) _
      refine XS.goto X50.here hx rfl (pc0 := 257) (pc' := 261) rfl (hb hby at_257) (by decide) (by decide) ?_
      show Steps p.tables e below (T50.setTop (mkF m 261 #[.val (.int p1), .val (.int (3 : Int32)), .val (.ref b40), .val (.ref w_FORK), .val (.ref w_FORK)] [(.int (1 : Int32))])) _
      exact retN X50 hx (t := .boolean) Bd.returns (by simp) (hb hby at_261) hr
    · show Q_rm0 Z p1 wV kV w_START w_TASK w_WAIT w_FORK w_JOIN w_SUCCESS s0u s0t s0k s1u s1t s1k s2u s2t s2k s3u s3t s3k s4u s4t s4k s5u s5t s5k zc h0 n0 _ T50.heap _
      exact ⟨rfl, N50⟩
  · have pre51 : ∀ t, Steps p.tables e below (s₁.setTop (mkF m 7 #[.val (.int p1), .unset, .unset, .unset, .unset] [(.int (4 : Int32))])) t → Steps p.tables e below (s₁.setTop (entryFrame m #[(.int p1)] maxLocals)) t := fun t k => pre1 t (by rw [hk]; exact k)
    obtain ⟨T52, h52, k52, X52, e52, E52, A52, st52⟩ := newP X0 hx hZ (hw _ (List.mem_of_getElem? (i := 1) rfl)) e0 (g := (mkF m 162 #[.val (.int p1), .val (.int (4 : Int32)), .unset, .unset, .unset] [(.int (4 : Int32))])) rfl (hb hby at_162) rfl (by decide) (cap := 4) (by decide) (by decide) (by decide) (by decide)
    obtain ⟨b52, g52⟩ : ∃ z, z = h0.size := ⟨_, rfl⟩
    rw [← g52] at A52 st52
    have V_b52 : Arv Z h52 b52 k52 .char (4 : Int32) [(.int (0 : Int32)), (.int (0 : Int32)), (.int (0 : Int32)), (.int (0 : Int32))] (.int (0 : Int32)) := (Arv.new A52 (by decide)).pad (pad_rep [] (.int (0 : Int32)) 4)
    have g_b52 : n0 ≤ b52 := Nat.le_trans Z0 (Nat.le_of_eq g52.symm)
    have sz_b52 : h0.size ≤ b52 := Nat.le_trans ((Keep.refl h0 [])).1 (Nat.le_of_eq g52.symm)
    have K52 : Keep h0 h52 [] := ((Keep.refl h0 [])).ext E52
    obtain ⟨cl53, Ar53, q53, S53, N53_, H53, G53⟩ := id V_b52
    obtain ⟨T53, h53, X53, e53, W53, st53⟩ := stC X52 hx hZ e52 Ar53 (j := (0 : Int32)) (inb_of S53 ⟨by decide, by decide⟩) (g := (mkF m 168 #[.val (.int p1), .val (.int (4 : Int32)), .unset, .unset, .unset] [(.int (74 : Int32)), (.int (0 : Int32)), (.ref b52), (.ref b52)])) rfl rfl (hb hby at_168)
    have V53 := Arv.set Ar53 q53 S53 N53_ H53 G53 (fits_nar_char _) W53 0 rfl (Nat.le_of_ble_eq_true rfl)
    have K53 : Keep h0 h53 [] := (K52).wr W53 (Or.inr sz_b52)
    have N53 := Fr.snoc X53 N0 g_b52
    obtain ⟨cl54, Ar54, q54, S54, N54_, H54, G54⟩ := id V53
    obtain ⟨T54, h54, X54, e54, W54, st54⟩ := stC X53 hx hZ e53 Ar54 (j := (1 : Int32)) (inb_of S54 ⟨by decide, by decide⟩) (g := (mkF m 173 #[.val (.int p1), .val (.int (4 : Int32)), .unset, .unset, .unset] [(.int (111 : Int32)), (.int (1 : Int32)), (.ref b52), (.ref b52)])) rfl rfl (hb hby at_173)
    have V54 := Arv.set Ar54 q54 S54 N54_ H54 G54 (fits_nar_char _) W54 1 rfl (Nat.le_of_ble_eq_true rfl)
    have K54 : Keep h0 h54 [] := (K53).wr W54 (Or.inr sz_b52)
    have N54 := Fr.snoc X54 N53 g_b52
    obtain ⟨cl55, Ar55, q55, S55, N55_, H55, G55⟩ := id V54
    obtain ⟨T55, h55, X55, e55, W55, st55⟩ := stC X54 hx hZ e54 Ar55 (j := (2 : Int32)) (inb_of S55 ⟨by decide, by decide⟩) (g := (mkF m 178 #[.val (.int p1), .val (.int (4 : Int32)), .unset, .unset, .unset] [(.int (105 : Int32)), (.int (2 : Int32)), (.ref b52), (.ref b52)])) rfl rfl (hb hby at_178)
    have V55 := Arv.set Ar55 q55 S55 N55_ H55 G55 (fits_nar_char _) W55 2 rfl (Nat.le_of_ble_eq_true rfl)
    have K55 : Keep h0 h55 [] := (K54).wr W55 (Or.inr sz_b52)
    have N55 := Fr.snoc X55 N54 g_b52
    obtain ⟨cl56, Ar56, q56, S56, N56_, H56, G56⟩ := id V55
    obtain ⟨T56, h56, X56, e56, W56, st56⟩ := stC X55 hx hZ e55 Ar56 (j := (3 : Int32)) (inb_of S56 ⟨by decide, by decide⟩) (g := (mkF m 183 #[.val (.int p1), .val (.int (4 : Int32)), .unset, .unset, .unset] [(.int (110 : Int32)), (.int (3 : Int32)), (.ref b52), (.ref b52)])) rfl rfl (hb hby at_183)
    have V56 := Arv.set Ar56 q56 S56 N56_ H56 G56 (fits_nar_char _) W56 3 rfl (Nat.le_of_ble_eq_true rfl)
    have K56 : Keep h0 h56 [] := (K55).wr W56 (Or.inr sz_b52)
    have N56 := Fr.snoc X56 N55 g_b52
    obtain ⟨T57, X57, e57, st57⟩ := getS2 X56 hx hZ hown (host := "") (Or.inl (hw _ (List.mem_of_getElem? (i := 73) rfl))) Via.refl e56 (Sta.ext (own_keep_ext K56) S_JOIN) (g := (mkF m 185 #[.val (.int p1), .val (.int (4 : Int32)), .val (.ref b52), .unset, .unset] [])) rfl (hb hby at_185)
    obtain ⟨T58, h58, X58, e58, E58, A58, D58, -, st58⟩ := newO X57 hx hZ hown (hw _ (List.mem_of_getElem? (i := 5) rfl)) (hw _ (List.mem_of_getElem? (i := 6) rfl)) (hw _ (List.mem_of_getElem? (i := 7) rfl)) e57 (g := (mkF m 237 #[.val (.int p1), .val (.int (4 : Int32)), .val (.ref b52), .val (.ref w_JOIN), .unset] [])) rfl (hb hby at_237) (by decide) (by decide)
    obtain ⟨b58, g58⟩ : ∃ z, z = h56.size := ⟨_, rfl⟩
    rw [← g58] at A58 D58 st58
    have ne_b52_b58 : b52 ≠ b58 := Nat.ne_of_lt (Nat.lt_of_lt_of_le V56.lt (Nat.le_of_eq g58.symm))
    have g_b58 : n0 ≤ b58 := Nat.le_trans (Nat.le_trans Z0 K56.1) (Nat.le_of_eq g58.symm)
    have sz_b58 : h0.size ≤ b58 := Nat.le_trans (K56).1 (Nat.le_of_eq g58.symm)
    have K58 : Keep h0 h58 [] := (K56).ext E58
    have F58_coder : Fld Z h58 b58 "java/lang/String" "coder" "B" (.int (0 : Int32)) := D58 (Or.inr (hw _ (List.mem_of_getElem? (i := 31) rfl))) (ty := .byte) (by decide)
    have F58_value : Fld Z h58 b58 "java/lang/String" "value" "[B" .null := D58 (Or.inr (hw _ (List.mem_of_getElem? (i := 33) rfl))) (ty := (.array .byte)) (by decide)
    have f59 := (V56.ext E58)
    have V60 : Arv Z h58 b52 _ .char (4 : Int32) (cs4.map Value.int) (.int (0 : Int32)) := f59
    have hws : ∀ d ∈ StrChars.Road.words, d.before a0 Z = true := fun d hd => hw d ((by decide +kernel : ∀ d ∈ StrChars.Road.words, d ∈ tables_1) d hd)
    obtain ⟨_, _, ⟨T61, L61, k61, n61⟩, -, X61, ⟨Lc61, hQ61, l61, y61, z61⟩, st61⟩ := X58.specialBack hx (y := (⟨"java/lang/String", "<init>", "([C)V"⟩ : MethodName)) rfl hown (mvT hZ (hw _ (List.mem_of_getElem? (i := 8) rfl))) (mvT hZ (hw _ (List.mem_of_getElem? (i := 9) rfl))) (mvT hZ (hw _ (List.mem_of_getElem? (i := 10) rfl))) (by decide) (StrChars.Road.backV (W := 1) hZ hws (kI := 4) (hw _ (List.mem_of_getElem? (i := 6) rfl)) (cs := cs4) (bs := cs4.map (fun c => c.toInt8.toInt32)) (n := 4) g_b58 (Nat.le_trans Z0 K58.1) A58 F58_value F58_coder V60 (Sta.ext (own_keep_ext K58) S_C) hzc rfl rfl (by decide) (by decide) own_c4 rfl (by decide) (by decide)) (g := (mkF m 242 #[.val (.int p1), .val (.int (4 : Int32)), .val (.ref b52), .val (.ref w_JOIN), .unset] [(.ref b52), (.ref b58), (.ref b58)])) rfl (by rw [hml]; rfl) (Steps.refl _) (a := b58) (argsL := [(.ref b52)]) (rest := [(.ref b58)]) (lenOf pd_rm0_0 rfl) rfl (by show 2 * 0 + _ ≤ _; exact Nat.le_of_eq rfl) (hb hby at_242) (fun _ _ => ⟨rfl, e58, (by decide : 2 + 1 ≤ _), (by decide : 8 + 4 ≤ _)⟩)
    dsimp only [Pt.U, Pt.locs, Pt.cells, Pt.slots] at X61 l61 y61 z61 st61 hQ61
    subst l61 y61 z61
    obtain ⟨rfl, N61q, K61q, A61q, C61q, t61, k61, g611, g612, g613, F61q, B61q⟩ := hQ61
    have N61 := Fr.app N56 N61q
    have K61 : Keep h0 T61.heap [] := (K58).trans K61q (allS (Or.inr sz_b58) all0)
    have Xt : Ext h0 T61.heap := own_keep_ext K61
    obtain ⟨_, _, ⟨T62, L62, k62, n62⟩, -, X62, ⟨Lc62, hQ62, l62, y62, z62⟩, st62⟩ := Jvm.LawKit.callS X61 hx (y := (⟨"com/example/nevermind/nevermind/graphs/NodeType", "fromWireName", "(Ljava/lang/String;)Lcom/example/nevermind/nevermind/graphs/NodeType;"⟩ : MethodName)) hown (mvT hZ (hw _ (List.mem_of_getElem? (i := 34) rfl))) (mvT hZ (hw _ (List.mem_of_getElem? (i := 35) rfl))) (mvT hZ (hw _ (List.mem_of_getElem? (i := 3) rfl))) (mvT hZ (hw _ (List.mem_of_getElem? (i := 36) rfl))) (by decide) (backOf (W := 0) (rmF4 l Z a0 hw [] b58 t61 k61 wV kV w_START w_TASK w_WAIT w_FORK w_JOIN w_SUCCESS s0u s0t s0k s1u s1t s1k s2u s2t s2k s3u s3t s3k s4u s4t s4k s5u s5t s5k zc T61.heap n0 (Nat.le_trans Z0 K61.1) A61q F61q C61q B61q (Sta.ext Xt S_V) (V_V.ext Xt) (Exa.ext Xt E_V) (Fld.ext Xt s0F) (Exa.ext Xt s0E) (Fld.ext Xt s0V) (Fld.ext Xt s0C) (s0K.ext Xt) (Fld.ext Xt s1F) (Exa.ext Xt s1E) (Fld.ext Xt s1V) (Fld.ext Xt s1C) (s1K.ext Xt) (Fld.ext Xt s2F) (Exa.ext Xt s2E) (Fld.ext Xt s2V) (Fld.ext Xt s2C) (s2K.ext Xt) (Fld.ext Xt s3F) (Exa.ext Xt s3E) (Fld.ext Xt s3V) (Fld.ext Xt s3C) (s3K.ext Xt) (Fld.ext Xt s4F) (Exa.ext Xt s4E) (Fld.ext Xt s4V) (Fld.ext Xt s4C) (s4K.ext Xt) (Fld.ext Xt s5F) (Exa.ext Xt s5E) (Fld.ext Xt s5V) (Fld.ext Xt s5C) (s5K.ext Xt) (Sta.ext Xt S_C) hzc) hZ (hw _ (List.mem_of_getElem? (i := 36) rfl)) (hw _ (List.mem_of_getElem? (i := 3) rfl)) (by decide) (by decide)) (g := (mkF m 245 #[.val (.int p1), .val (.int (4 : Int32)), .val (.ref b52), .val (.ref w_JOIN), .unset] [(.ref b58)])) rfl (by rw [hml]; rfl) (argsL := [(.ref b58)]) (rest := []) (lenOf pd_rm0_1 rfl) rfl (by show 2 * 0 + _ ≤ _; exact Nat.le_of_eq rfl) (hb hby at_245) (fun _ _ => ⟨rfl, rfl, (by decide : 3 + 1 ≤ _), (by decide : 12 + 6 ≤ _)⟩)
    dsimp only [Pt.U, Pt.locs, Pt.cells, Pt.slots] at X62 l62 y62 z62 st62 hQ62
    subst l62 y62 z62
    obtain ⟨rfl, N62q, E62q⟩ := hQ62
    have N62 := Fr.app N61 N62q
    obtain ⟨fs, hr, hrun, hended, hW, hsame⟩ := X62.leave (v := some (.int (1 : Int32))) (fun h => by rw [Bd.returns] at h; cases h)
    refine ⟨_, _, pre51 _ ?_, hrun, hended, _, _, rfl, ?_, ⟨_, rfl⟩, hW, hsame.mono (by decide) (by decide)⟩
    · show Steps p.tables e below (s₁.setTop (mkF m 7 #[.val (.int p1), .unset, .unset, .unset, .unset] [(.int (4 : Int32))])) _
      refine XS.istoreN X0.here hx rfl (hb hby at_7) rfl (l' := #[.val (.int p1), .val (.int (4 : Int32)), .unset, .unset, .unset]) rfl ?_
      show Steps p.tables e below (s₁.setTop (mkF m 8 #[.val (.int p1), .val (.int (4 : Int32)), .unset, .unset, .unset] [])) _
      refine XS.iloadN X0.here hx rfl (hb hby at_8) rfl ?_
      show Steps p.tables e below (s₁.setTop (mkF m 9 #[.val (.int p1), .val (.int (4 : Int32)), .unset, .unset, .unset] [(.int (4 : Int32))])) _
      refine XS.ifYes X0.here hx rfl (pc0 := 9) (pc' := 48) rfl (hb hby at_9) rfl ((if0 _ _).trans (feq (by decide : ¬ ((4 : Int32) = (0 : Int32)))).2) (by decide) (by decide) ?_
      show Steps p.tables e below (s₁.setTop (mkF m 48 #[.val (.int p1), .val (.int (4 : Int32)), .unset, .unset, .unset] [])) _
      refine XS.iloadN X0.here hx rfl (hb hby at_48) rfl ?_
      show Steps p.tables e below (s₁.setTop (mkF m 49 #[.val (.int p1), .val (.int (4 : Int32)), .unset, .unset, .unset] [(.int (4 : Int32))])) _
      refine XS.iconst X0.here hx rfl (hb hby at_49) ?_
      show Steps p.tables e below (s₁.setTop (mkF m 50 #[.val (.int p1), .val (.int (4 : Int32)), .unset, .unset, .unset] [(.int (1 : Int32)), (.int (4 : Int32))])) _
      refine XS.icmpYes X0.here hx rfl (pc0 := 50) (pc' := 84) rfl (hb hby at_50) rfl (feq (by decide : ¬ ((4 : Int32) = (1 : Int32)))).2 (by decide) (by decide) ?_
      show Steps p.tables e below (s₁.setTop (mkF m 84 #[.val (.int p1), .val (.int (4 : Int32)), .unset, .unset, .unset] [])) _
      refine XS.iloadN X0.here hx rfl (hb hby at_84) rfl ?_
      show Steps p.tables e below (s₁.setTop (mkF m 85 #[.val (.int p1), .val (.int (4 : Int32)), .unset, .unset, .unset] [(.int (4 : Int32))])) _
      refine XS.iconst X0.here hx rfl (hb hby at_85) ?_
      show Steps p.tables e below (s₁.setTop (mkF m 86 #[.val (.int p1), .val (.int (4 : Int32)), .unset, .unset, .unset] [(.int (2 : Int32)), (.int (4 : Int32))])) _
      refine XS.icmpYes X0.here hx rfl (pc0 := 86) (pc' := 120) rfl (hb hby at_86) rfl (feq (by decide : ¬ ((4 : Int32) = (2 : Int32)))).2 (by decide) (by decide) ?_
      show Steps p.tables e below (s₁.setTop (mkF m 120 #[.val (.int p1), .val (.int (4 : Int32)), .unset, .unset, .unset] [])) _
      refine XS.iloadN X0.here hx rfl (hb hby at_120) rfl ?_
      show Steps p.tables e below (s₁.setTop (mkF m 121 #[.val (.int p1), .val (.int (4 : Int32)), .unset, .unset, .unset] [(.int (4 : Int32))])) _
      refine XS.iconst X0.here hx rfl (hb hby at_121) ?_
      show Steps p.tables e below (s₁.setTop (mkF m 122 #[.val (.int p1), .val (.int (4 : Int32)), .unset, .unset, .unset] [(.int (3 : Int32)), (.int (4 : Int32))])) _
      refine XS.icmpYes X0.here hx rfl (pc0 := 122) (pc' := 156) rfl (hb hby at_122) rfl (feq (by decide : ¬ ((4 : Int32) = (3 : Int32)))).2 (by decide) (by decide) ?_
      show Steps p.tables e below (s₁.setTop (mkF m 156 #[.val (.int p1), .val (.int (4 : Int32)), .unset, .unset, .unset] [])) _
      refine XS.iloadN X0.here hx rfl (hb hby at_156) rfl ?_
      show Steps p.tables e below (s₁.setTop (mkF m 157 #[.val (.int p1), .val (.int (4 : Int32)), .unset, .unset, .unset] [(.int (4 : Int32))])) _
      refine XS.iconst X0.here hx rfl (hb hby at_157) ?_
      show Steps p.tables e below (s₁.setTop (mkF m 158 #[.val (.int p1), .val (.int (4 : Int32)), .unset, .unset, .unset] [(.int (4 : Int32)), (.int (4 : Int32))])) _
      refine XS.icmpNo X0.here hx rfl (hb hby at_158) rfl (teq (rfl : (4 : Int32) = (4 : Int32))).2 ?_
      show Steps p.tables e below (s₁.setTop (mkF m 161 #[.val (.int p1), .val (.int (4 : Int32)), .unset, .unset, .unset] [])) _
      refine XS.iconst X0.here hx rfl (hb hby at_161) ?_
      show Steps p.tables e below (s₁.setTop (mkF m 162 #[.val (.int p1), .val (.int (4 : Int32)), .unset, .unset, .unset] [(.int (4 : Int32))])) _
      refine st52 _ ?_
      show Steps p.tables e below (T52.setTop (mkF m 164 #[.val (.int p1), .val (.int (4 : Int32)), .unset, .unset, .unset] [(.ref b52)])) _
      refine XS.dup X52.here hx rfl (hb hby at_164) rfl rfl ?_
      show Steps p.tables e below (T52.setTop (mkF m 165 #[.val (.int p1), .val (.int (4 : Int32)), .unset, .unset, .unset] [(.ref b52), (.ref b52)])) _
      refine XS.iconst X52.here hx rfl (hb hby at_165) ?_
      show Steps p.tables e below (T52.setTop (mkF m 166 #[.val (.int p1), .val (.int (4 : Int32)), .unset, .unset, .unset] [(.int (0 : Int32)), (.ref b52), (.ref b52)])) _
      refine XS.bipush X52.here hx rfl (hb hby at_166) ?_
      show Steps p.tables e below (T52.setTop (mkF m 168 #[.val (.int p1), .val (.int (4 : Int32)), .unset, .unset, .unset] [(.int (74 : Int32)), (.int (0 : Int32)), (.ref b52), (.ref b52)])) _
      refine st53 _ ?_
      show Steps p.tables e below (T53.setTop (mkF m 169 #[.val (.int p1), .val (.int (4 : Int32)), .unset, .unset, .unset] [(.ref b52)])) _
      refine XS.dup X53.here hx rfl (hb hby at_169) rfl rfl ?_
      show Steps p.tables e below (T53.setTop (mkF m 170 #[.val (.int p1), .val (.int (4 : Int32)), .unset, .unset, .unset] [(.ref b52), (.ref b52)])) _
      refine XS.iconst X53.here hx rfl (hb hby at_170) ?_
      show Steps p.tables e below (T53.setTop (mkF m 171 #[.val (.int p1), .val (.int (4 : Int32)), .unset, .unset, .unset] [(.int (1 : Int32)), (.ref b52), (.ref b52)])) _
      refine XS.bipush X53.here hx rfl (hb hby at_171) ?_
      show Steps p.tables e below (T53.setTop (mkF m 173 #[.val (.int p1), .val (.int (4 : Int32)), .unset, .unset, .unset] [(.int (111 : Int32)), (.int (1 : Int32)), (.ref b52), (.ref b52)])) _
      refine st54 _ ?_
      show Steps p.tables e below (T54.setTop (mkF m 174 #[.val (.int p1), .val (.int (4 : Int32)), .unset, .unset, .unset] [(.ref b52)])) _
      refine XS.dup X54.here hx rfl (hb hby at_174) rfl rfl ?_
      show Steps p.tables e below (T54.setTop (mkF m 175 #[.val (.int p1), .val (.int (4 : Int32)), .unset, .unset, .unset] [(.ref b52), (.ref b52)])) _
      refine XS.iconst X54.here hx rfl (hb hby at_175) ?_
      show Steps p.tables e below (T54.setTop (mkF m 176 #[.val (.int p1), .val (.int (4 : Int32)), .unset, .unset, .unset] [(.int (2 : Int32)), (.ref b52), (.ref b52)])) _
      refine XS.bipush X54.here hx rfl (hb hby at_176) ?_
      show Steps p.tables e below (T54.setTop (mkF m 178 #[.val (.int p1), .val (.int (4 : Int32)), .unset, .unset, .unset] [(.int (105 : Int32)), (.int (2 : Int32)), (.ref b52), (.ref b52)])) _
      refine st55 _ ?_
      show Steps p.tables e below (T55.setTop (mkF m 179 #[.val (.int p1), .val (.int (4 : Int32)), .unset, .unset, .unset] [(.ref b52)])) _
      refine XS.dup X55.here hx rfl (hb hby at_179) rfl rfl ?_
      show Steps p.tables e below (T55.setTop (mkF m 180 #[.val (.int p1), .val (.int (4 : Int32)), .unset, .unset, .unset] [(.ref b52), (.ref b52)])) _
      refine XS.iconst X55.here hx rfl (hb hby at_180) ?_
      show Steps p.tables e below (T55.setTop (mkF m 181 #[.val (.int p1), .val (.int (4 : Int32)), .unset, .unset, .unset] [(.int (3 : Int32)), (.ref b52), (.ref b52)])) _
      refine XS.bipush X55.here hx rfl (hb hby at_181) ?_
      show Steps p.tables e below (T55.setTop (mkF m 183 #[.val (.int p1), .val (.int (4 : Int32)), .unset, .unset, .unset] [(.int (110 : Int32)), (.int (3 : Int32)), (.ref b52), (.ref b52)])) _
      refine st56 _ ?_
      show Steps p.tables e below (T56.setTop (mkF m 184 #[.val (.int p1), .val (.int (4 : Int32)), .unset, .unset, .unset] [(.ref b52)])) _
      refine XS.astoreN X56.here hx rfl (hb hby at_184) rfl rfl (l' := #[.val (.int p1), .val (.int (4 : Int32)), .val (.ref b52), .unset, .unset]) rfl ?_
      show Steps p.tables e below (T56.setTop (mkF m 185 #[.val (.int p1), .val (.int (4 : Int32)), .val (.ref b52), .unset, .unset] [])) _
      refine st57 _ ?_
      show Steps p.tables e below (T57.setTop (mkF m 188 #[.val (.int p1), .val (.int (4 : Int32)), .val (.ref b52), .unset, .unset] [(.ref w_JOIN)])) _
      refine XS.astoreN X57.here hx rfl (hb hby at_188) rfl rfl (l' := #[.val (.int p1), .val (.int (4 : Int32)), .val (.ref b52), .val (.ref w_JOIN), .unset]) rfl ?_
      show Steps p.tables e below (T57.setTop (mkF m 189 #[.val (.int p1), .val (.int (4 : Int32)), .val (.ref b52), .val (.ref w_JOIN), .unset] [])) _
      refine XS.goto X57.here hx rfl (pc0 := 189) (pc' := 237) rfl (hb hby at_189) (by decide) (by decide) ?_
      show Steps p.tables e below (T57.setTop (mkF m 237 #[.val (.int p1), .val (.int (4 : Int32)), .val (.ref b52), .val (.ref w_JOIN), .unset] [])) _
      refine st58 _ ?_
      show Steps p.tables e below (T58.setTop (mkF m 240 #[.val (.int p1), .val (.int (4 : Int32)), .val (.ref b52), .val (.ref w_JOIN), .unset] [(.ref b58)])) _
      refine XS.dup X58.here hx rfl (hb hby at_240) rfl rfl ?_
      show Steps p.tables e below (T58.setTop (mkF m 241 #[.val (.int p1), .val (.int (4 : Int32)), .val (.ref b52), .val (.ref w_JOIN), .unset] [(.ref b58), (.ref b58)])) _
      refine XS.aloadN X58.here hx rfl (hb hby at_241) rfl rfl ?_
      show Steps p.tables e below (T58.setTop (mkF m 242 #[.val (.int p1), .val (.int (4 : Int32)), .val (.ref b52), .val (.ref w_JOIN), .unset] [(.ref b52), (.ref b58), (.ref b58)])) _
      refine st61.trans ?_
      show Steps p.tables e below (T61.setTop (mkF m 245 #[.val (.int p1), .val (.int (4 : Int32)), .val (.ref b52), .val (.ref w_JOIN), .unset] [(.ref b58)])) _
      refine st62 _ ?_
      show Steps p.tables e below (T62.setTop (mkF m 248 #[.val (.int p1), .val (.int (4 : Int32)), .val (.ref b52), .val (.ref w_JOIN), .unset] [(.ref w_JOIN)])) _
      refine XS.astore X62.here hx rfl (hb hby at_248) rfl rfl (l' := #[.val (.int p1), .val (.int (4 : Int32)), .val (.ref b52), .val (.ref w_JOIN), .val (.ref w_JOIN)]) rfl ?_
      show Steps p.tables e below (T62.setTop (mkF m 250 #[.val (.int p1), .val (.int (4 : Int32)), .val (.ref b52), .val (.ref w_JOIN), .val (.ref w_JOIN)] [])) _
      refine XS.aload X62.here hx rfl (hb hby at_250) rfl rfl ?_
      show Steps p.tables e below (T62.setTop (mkF m 252 #[.val (.int p1), .val (.int (4 : Int32)), .val (.ref b52), .val (.ref w_JOIN), .val (.ref w_JOIN)] [(.ref w_JOIN)])) _
      refine XS.aloadN X62.here hx rfl (hb hby at_252) rfl rfl ?_
      show Steps p.tables e below (T62.setTop (mkF m 253 #[.val (.int p1), .val (.int (4 : Int32)), .val (.ref b52), .val (.ref w_JOIN), .val (.ref w_JOIN)] [(.ref w_JOIN), (.ref w_JOIN)])) _
      refine Jvm.RoadKit.acmp (g := (mkF m 253 #[.val (.int p1), .val (.int (4 : Int32)), .val (.ref b52), .val (.ref w_JOIN), .val (.ref w_JOIN)] [(.ref w_JOIN), (.ref w_JOIN)])) X62 hx rfl rfl rfl (pc0 := 253) (pc' := 256) (same := true) rfl (hb hby at_253) rfl (decide_eq_true rfl) (by decide) (by decide) ?_
      show Steps p.tables e below (T62.setTop (mkF m 256 #[.val (.int p1), .val (.int (4 : Int32)), .val (.ref b52), .val (.ref w_JOIN), .val (.ref w_JOIN)] [])) _
      refine XS.iconst X62.here hx rfl (hb hby at_256) ?_
      show Steps p.tables e below (T62.setTop (mkF m 257 #[.val (.int p1), .val (.int (4 : Int32)), .val (.ref b52), .val (.ref w_JOIN), .val (.ref w_JOIN)] [(.int (1 : Int32))])) _
      refine XS.goto X62.here hx rfl (pc0 := 257) (pc' := 261) rfl (hb hby at_257) (by decide) (by decide) ?_
      show Steps p.tables e below (T62.setTop (mkF m 261 #[.val (.int p1), .val (.int (4 : Int32)), .val (.ref b52), .val (.ref w_JOIN), .val (.ref w_JOIN)] [(.int (1 : Int32))])) _
      exact retN X62 hx (t := .boolean) Bd.returns (by simp) (hb hby at_261) hr
    · show Q_rm0 Z p1 wV kV w_START w_TASK w_WAIT w_FORK w_JOIN w_SUCCESS s0u s0t s0k s1u s1t s1k s2u s2t s2k s3u s3t s3k s4u s4t s4k s5u s5t s5k zc h0 n0 _ T62.heap _
      exact ⟨rfl, N62⟩
  · have pre63 : ∀ t, Steps p.tables e below (s₁.setTop (mkF m 7 #[.val (.int p1), .unset, .unset, .unset, .unset] [(.int (5 : Int32))])) t → Steps p.tables e below (s₁.setTop (entryFrame m #[(.int p1)] maxLocals)) t := fun t k => pre1 t (by rw [hk]; exact k)
    obtain ⟨T64, h64, k64, X64, e64, E64, A64, st64⟩ := newP X0 hx hZ (hw _ (List.mem_of_getElem? (i := 1) rfl)) e0 (g := (mkF m 194 #[.val (.int p1), .val (.int (5 : Int32)), .unset, .unset, .unset] [(.int (7 : Int32))])) rfl (hb hby at_194) rfl (by decide) (cap := 7) (by decide) (by decide) (by decide) (by decide)
    obtain ⟨b64, g64⟩ : ∃ z, z = h0.size := ⟨_, rfl⟩
    rw [← g64] at A64 st64
    have V_b64 : Arv Z h64 b64 k64 .char (7 : Int32) [(.int (0 : Int32)), (.int (0 : Int32)), (.int (0 : Int32)), (.int (0 : Int32)), (.int (0 : Int32)), (.int (0 : Int32)), (.int (0 : Int32))] (.int (0 : Int32)) := (Arv.new A64 (by decide)).pad (pad_rep [] (.int (0 : Int32)) 7)
    have g_b64 : n0 ≤ b64 := Nat.le_trans Z0 (Nat.le_of_eq g64.symm)
    have sz_b64 : h0.size ≤ b64 := Nat.le_trans ((Keep.refl h0 [])).1 (Nat.le_of_eq g64.symm)
    have K64 : Keep h0 h64 [] := ((Keep.refl h0 [])).ext E64
    obtain ⟨cl65, Ar65, q65, S65, N65_, H65, G65⟩ := id V_b64
    obtain ⟨T65, h65, X65, e65, W65, st65⟩ := stC X64 hx hZ e64 Ar65 (j := (0 : Int32)) (inb_of S65 ⟨by decide, by decide⟩) (g := (mkF m 200 #[.val (.int p1), .val (.int (5 : Int32)), .unset, .unset, .unset] [(.int (83 : Int32)), (.int (0 : Int32)), (.ref b64), (.ref b64)])) rfl rfl (hb hby at_200)
    have V65 := Arv.set Ar65 q65 S65 N65_ H65 G65 (fits_nar_char _) W65 0 rfl (Nat.le_of_ble_eq_true rfl)
    have K65 : Keep h0 h65 [] := (K64).wr W65 (Or.inr sz_b64)
    have N65 := Fr.snoc X65 N0 g_b64
    obtain ⟨cl66, Ar66, q66, S66, N66_, H66, G66⟩ := id V65
    obtain ⟨T66, h66, X66, e66, W66, st66⟩ := stC X65 hx hZ e65 Ar66 (j := (1 : Int32)) (inb_of S66 ⟨by decide, by decide⟩) (g := (mkF m 205 #[.val (.int p1), .val (.int (5 : Int32)), .unset, .unset, .unset] [(.int (117 : Int32)), (.int (1 : Int32)), (.ref b64), (.ref b64)])) rfl rfl (hb hby at_205)
    have V66 := Arv.set Ar66 q66 S66 N66_ H66 G66 (fits_nar_char _) W66 1 rfl (Nat.le_of_ble_eq_true rfl)
    have K66 : Keep h0 h66 [] := (K65).wr W66 (Or.inr sz_b64)
    have N66 := Fr.snoc X66 N65 g_b64
    obtain ⟨cl67, Ar67, q67, S67, N67_, H67, G67⟩ := id V66
    obtain ⟨T67, h67, X67, e67, W67, st67⟩ := stC X66 hx hZ e66 Ar67 (j := (2 : Int32)) (inb_of S67 ⟨by decide, by decide⟩) (g := (mkF m 210 #[.val (.int p1), .val (.int (5 : Int32)), .unset, .unset, .unset] [(.int (99 : Int32)), (.int (2 : Int32)), (.ref b64), (.ref b64)])) rfl rfl (hb hby at_210)
    have V67 := Arv.set Ar67 q67 S67 N67_ H67 G67 (fits_nar_char _) W67 2 rfl (Nat.le_of_ble_eq_true rfl)
    have K67 : Keep h0 h67 [] := (K66).wr W67 (Or.inr sz_b64)
    have N67 := Fr.snoc X67 N66 g_b64
    obtain ⟨cl68, Ar68, q68, S68, N68_, H68, G68⟩ := id V67
    obtain ⟨T68, h68, X68, e68, W68, st68⟩ := stC X67 hx hZ e67 Ar68 (j := (3 : Int32)) (inb_of S68 ⟨by decide, by decide⟩) (g := (mkF m 215 #[.val (.int p1), .val (.int (5 : Int32)), .unset, .unset, .unset] [(.int (99 : Int32)), (.int (3 : Int32)), (.ref b64), (.ref b64)])) rfl rfl (hb hby at_215)
    have V68 := Arv.set Ar68 q68 S68 N68_ H68 G68 (fits_nar_char _) W68 3 rfl (Nat.le_of_ble_eq_true rfl)
    have K68 : Keep h0 h68 [] := (K67).wr W68 (Or.inr sz_b64)
    have N68 := Fr.snoc X68 N67 g_b64
    obtain ⟨cl69, Ar69, q69, S69, N69_, H69, G69⟩ := id V68
    obtain ⟨T69, h69, X69, e69, W69, st69⟩ := stC X68 hx hZ e68 Ar69 (j := (4 : Int32)) (inb_of S69 ⟨by decide, by decide⟩) (g := (mkF m 220 #[.val (.int p1), .val (.int (5 : Int32)), .unset, .unset, .unset] [(.int (101 : Int32)), (.int (4 : Int32)), (.ref b64), (.ref b64)])) rfl rfl (hb hby at_220)
    have V69 := Arv.set Ar69 q69 S69 N69_ H69 G69 (fits_nar_char _) W69 4 rfl (Nat.le_of_ble_eq_true rfl)
    have K69 : Keep h0 h69 [] := (K68).wr W69 (Or.inr sz_b64)
    have N69 := Fr.snoc X69 N68 g_b64
    obtain ⟨cl70, Ar70, q70, S70, N70_, H70, G70⟩ := id V69
    obtain ⟨T70, h70, X70, e70, W70, st70⟩ := stC X69 hx hZ e69 Ar70 (j := (5 : Int32)) (inb_of S70 ⟨by decide, by decide⟩) (g := (mkF m 225 #[.val (.int p1), .val (.int (5 : Int32)), .unset, .unset, .unset] [(.int (115 : Int32)), (.int (5 : Int32)), (.ref b64), (.ref b64)])) rfl rfl (hb hby at_225)
    have V70 := Arv.set Ar70 q70 S70 N70_ H70 G70 (fits_nar_char _) W70 5 rfl (Nat.le_of_ble_eq_true rfl)
    have K70 : Keep h0 h70 [] := (K69).wr W70 (Or.inr sz_b64)
    have N70 := Fr.snoc X70 N69 g_b64
    obtain ⟨cl71, Ar71, q71, S71, N71_, H71, G71⟩ := id V70
    obtain ⟨T71, h71, X71, e71, W71, st71⟩ := stC X70 hx hZ e70 Ar71 (j := (6 : Int32)) (inb_of S71 ⟨by decide, by decide⟩) (g := (mkF m 231 #[.val (.int p1), .val (.int (5 : Int32)), .unset, .unset, .unset] [(.int (115 : Int32)), (.int (6 : Int32)), (.ref b64), (.ref b64)])) rfl rfl (hb hby at_231)
    have V71 := Arv.set Ar71 q71 S71 N71_ H71 G71 (fits_nar_char _) W71 6 rfl (Nat.le_of_ble_eq_true rfl)
    have K71 : Keep h0 h71 [] := (K70).wr W71 (Or.inr sz_b64)
    have N71 := Fr.snoc X71 N70 g_b64
    obtain ⟨T72, X72, e72, st72⟩ := getS2 X71 hx hZ hown (host := "") (Or.inl (hw _ (List.mem_of_getElem? (i := 72) rfl))) Via.refl e71 (Sta.ext (own_keep_ext K71) S_SUCCESS) (g := (mkF m 233 #[.val (.int p1), .val (.int (5 : Int32)), .val (.ref b64), .unset, .unset] [])) rfl (hb hby at_233)
    obtain ⟨T73, h73, X73, e73, E73, A73, D73, -, st73⟩ := newO X72 hx hZ hown (hw _ (List.mem_of_getElem? (i := 5) rfl)) (hw _ (List.mem_of_getElem? (i := 6) rfl)) (hw _ (List.mem_of_getElem? (i := 7) rfl)) e72 (g := (mkF m 237 #[.val (.int p1), .val (.int (5 : Int32)), .val (.ref b64), .val (.ref w_SUCCESS), .unset] [])) rfl (hb hby at_237) (by decide) (by decide)
    obtain ⟨b73, g73⟩ : ∃ z, z = h71.size := ⟨_, rfl⟩
    rw [← g73] at A73 D73 st73
    have ne_b64_b73 : b64 ≠ b73 := Nat.ne_of_lt (Nat.lt_of_lt_of_le V71.lt (Nat.le_of_eq g73.symm))
    have g_b73 : n0 ≤ b73 := Nat.le_trans (Nat.le_trans Z0 K71.1) (Nat.le_of_eq g73.symm)
    have sz_b73 : h0.size ≤ b73 := Nat.le_trans (K71).1 (Nat.le_of_eq g73.symm)
    have K73 : Keep h0 h73 [] := (K71).ext E73
    have F73_coder : Fld Z h73 b73 "java/lang/String" "coder" "B" (.int (0 : Int32)) := D73 (Or.inr (hw _ (List.mem_of_getElem? (i := 31) rfl))) (ty := .byte) (by decide)
    have F73_value : Fld Z h73 b73 "java/lang/String" "value" "[B" .null := D73 (Or.inr (hw _ (List.mem_of_getElem? (i := 33) rfl))) (ty := (.array .byte)) (by decide)
    have f74 := (V71.ext E73)
    have V75 : Arv Z h73 b64 _ .char (7 : Int32) (cs5.map Value.int) (.int (0 : Int32)) := f74
    have hws : ∀ d ∈ StrChars.Road.words, d.before a0 Z = true := fun d hd => hw d ((by decide +kernel : ∀ d ∈ StrChars.Road.words, d ∈ tables_1) d hd)
    obtain ⟨_, _, ⟨T76, L76, k76, n76⟩, -, X76, ⟨Lc76, hQ76, l76, y76, z76⟩, st76⟩ := X73.specialBack hx (y := (⟨"java/lang/String", "<init>", "([C)V"⟩ : MethodName)) rfl hown (mvT hZ (hw _ (List.mem_of_getElem? (i := 8) rfl))) (mvT hZ (hw _ (List.mem_of_getElem? (i := 9) rfl))) (mvT hZ (hw _ (List.mem_of_getElem? (i := 10) rfl))) (by decide) (StrChars.Road.backV (W := 1) hZ hws (kI := 4) (hw _ (List.mem_of_getElem? (i := 6) rfl)) (cs := cs5) (bs := cs5.map (fun c => c.toInt8.toInt32)) (n := 7) g_b73 (Nat.le_trans Z0 K73.1) A73 F73_value F73_coder V75 (Sta.ext (own_keep_ext K73) S_C) hzc rfl rfl (by decide) (by decide) own_c5 rfl (by decide) (by decide)) (g := (mkF m 242 #[.val (.int p1), .val (.int (5 : Int32)), .val (.ref b64), .val (.ref w_SUCCESS), .unset] [(.ref b64), (.ref b73), (.ref b73)])) rfl (by rw [hml]; rfl) (Steps.refl _) (a := b73) (argsL := [(.ref b64)]) (rest := [(.ref b73)]) (lenOf pd_rm0_0 rfl) rfl (by show 2 * 0 + _ ≤ _; exact Nat.le_of_eq rfl) (hb hby at_242) (fun _ _ => ⟨rfl, e73, (by decide : 2 + 1 ≤ _), (by decide : 11 + 7 ≤ _)⟩)
    dsimp only [Pt.U, Pt.locs, Pt.cells, Pt.slots] at X76 l76 y76 z76 st76 hQ76
    subst l76 y76 z76
    obtain ⟨rfl, N76q, K76q, A76q, C76q, t76, k76, g761, g762, g763, F76q, B76q⟩ := hQ76
    have N76 := Fr.app N71 N76q
    have K76 : Keep h0 T76.heap [] := (K73).trans K76q (allS (Or.inr sz_b73) all0)
    have Xt : Ext h0 T76.heap := own_keep_ext K76
    obtain ⟨_, _, ⟨T77, L77, k77, n77⟩, -, X77, ⟨Lc77, hQ77, l77, y77, z77⟩, st77⟩ := Jvm.LawKit.callS X76 hx (y := (⟨"com/example/nevermind/nevermind/graphs/NodeType", "fromWireName", "(Ljava/lang/String;)Lcom/example/nevermind/nevermind/graphs/NodeType;"⟩ : MethodName)) hown (mvT hZ (hw _ (List.mem_of_getElem? (i := 34) rfl))) (mvT hZ (hw _ (List.mem_of_getElem? (i := 35) rfl))) (mvT hZ (hw _ (List.mem_of_getElem? (i := 3) rfl))) (mvT hZ (hw _ (List.mem_of_getElem? (i := 36) rfl))) (by decide) (backOf (W := 0) (rmF5 l Z a0 hw [] b73 t76 k76 wV kV w_START w_TASK w_WAIT w_FORK w_JOIN w_SUCCESS s0u s0t s0k s1u s1t s1k s2u s2t s2k s3u s3t s3k s4u s4t s4k s5u s5t s5k zc T76.heap n0 (Nat.le_trans Z0 K76.1) A76q F76q C76q B76q (Sta.ext Xt S_V) (V_V.ext Xt) (Exa.ext Xt E_V) (Fld.ext Xt s0F) (Exa.ext Xt s0E) (Fld.ext Xt s0V) (Fld.ext Xt s0C) (s0K.ext Xt) (Fld.ext Xt s1F) (Exa.ext Xt s1E) (Fld.ext Xt s1V) (Fld.ext Xt s1C) (s1K.ext Xt) (Fld.ext Xt s2F) (Exa.ext Xt s2E) (Fld.ext Xt s2V) (Fld.ext Xt s2C) (s2K.ext Xt) (Fld.ext Xt s3F) (Exa.ext Xt s3E) (Fld.ext Xt s3V) (Fld.ext Xt s3C) (s3K.ext Xt) (Fld.ext Xt s4F) (Exa.ext Xt s4E) (Fld.ext Xt s4V) (Fld.ext Xt s4C) (s4K.ext Xt) (Fld.ext Xt s5F) (Exa.ext Xt s5E) (Fld.ext Xt s5V) (Fld.ext Xt s5C) (s5K.ext Xt) (Sta.ext Xt S_C) hzc) hZ (hw _ (List.mem_of_getElem? (i := 36) rfl)) (hw _ (List.mem_of_getElem? (i := 3) rfl)) (by decide) (by decide)) (g := (mkF m 245 #[.val (.int p1), .val (.int (5 : Int32)), .val (.ref b64), .val (.ref w_SUCCESS), .unset] [(.ref b73)])) rfl (by rw [hml]; rfl) (argsL := [(.ref b73)]) (rest := []) (lenOf pd_rm0_1 rfl) rfl (by show 2 * 0 + _ ≤ _; exact Nat.le_of_eq rfl) (hb hby at_245) (fun _ _ => ⟨rfl, rfl, (by decide : 3 + 1 ≤ _), (by decide : 18 + 6 ≤ _)⟩)
    dsimp only [Pt.U, Pt.locs, Pt.cells, Pt.slots] at X77 l77 y77 z77 st77 hQ77
    subst l77 y77 z77
    obtain ⟨rfl, N77q, E77q⟩ := hQ77
    have N77 := Fr.app N76 N77q
    obtain ⟨fs, hr, hrun, hended, hW, hsame⟩ := X77.leave (v := some (.int (1 : Int32))) (fun h => by rw [Bd.returns] at h; cases h)
    refine ⟨_, _, pre63 _ ?_, hrun, hended, _, _, rfl, ?_, ⟨_, rfl⟩, hW, hsame.mono (by decide) (by decide)⟩
    · show Steps p.tables e below (s₁.setTop (mkF m 7 #[.val (.int p1), .unset, .unset, .unset, .unset] [(.int (5 : Int32))])) _
      refine XS.istoreN X0.here hx rfl (hb hby at_7) rfl (l' := #[.val (.int p1), .val (.int (5 : Int32)), .unset, .unset, .unset]) rfl ?_
      show Steps p.tables e below (s₁.setTop (mkF m 8 #[.val (.int p1), .val (.int (5 : Int32)), .unset, .unset, .unset] [])) _
      refine XS.iloadN X0.here hx rfl (hb hby at_8) rfl ?_
      show Steps p.tables e below (s₁.setTop (mkF m 9 #[.val (.int p1), .val (.int (5 : Int32)), .unset, .unset, .unset] [(.int (5 : Int32))])) _
      refine XS.ifYes X0.here hx rfl (pc0 := 9) (pc' := 48) rfl (hb hby at_9) rfl ((if0 _ _).trans (feq (by decide : ¬ ((5 : Int32) = (0 : Int32)))).2) (by decide) (by decide) ?_
      show Steps p.tables e below (s₁.setTop (mkF m 48 #[.val (.int p1), .val (.int (5 : Int32)), .unset, .unset, .unset] [])) _
      refine XS.iloadN X0.here hx rfl (hb hby at_48) rfl ?_
      show Steps p.tables e below (s₁.setTop (mkF m 49 #[.val (.int p1), .val (.int (5 : Int32)), .unset, .unset, .unset] [(.int (5 : Int32))])) _
      refine XS.iconst X0.here hx rfl (hb hby at_49) ?_
      show Steps p.tables e below (s₁.setTop (mkF m 50 #[.val (.int p1), .val (.int (5 : Int32)), .unset, .unset, .unset] [(.int (1 : Int32)), (.int (5 : Int32))])) _
      refine XS.icmpYes X0.here hx rfl (pc0 := 50) (pc' := 84) rfl (hb hby at_50) rfl (feq (by decide : ¬ ((5 : Int32) = (1 : Int32)))).2 (by decide) (by decide) ?_
      show Steps p.tables e below (s₁.setTop (mkF m 84 #[.val (.int p1), .val (.int (5 : Int32)), .unset, .unset, .unset] [])) _
      refine XS.iloadN X0.here hx rfl (hb hby at_84) rfl ?_
      show Steps p.tables e below (s₁.setTop (mkF m 85 #[.val (.int p1), .val (.int (5 : Int32)), .unset, .unset, .unset] [(.int (5 : Int32))])) _
      refine XS.iconst X0.here hx rfl (hb hby at_85) ?_
      show Steps p.tables e below (s₁.setTop (mkF m 86 #[.val (.int p1), .val (.int (5 : Int32)), .unset, .unset, .unset] [(.int (2 : Int32)), (.int (5 : Int32))])) _
      refine XS.icmpYes X0.here hx rfl (pc0 := 86) (pc' := 120) rfl (hb hby at_86) rfl (feq (by decide : ¬ ((5 : Int32) = (2 : Int32)))).2 (by decide) (by decide) ?_
      show Steps p.tables e below (s₁.setTop (mkF m 120 #[.val (.int p1), .val (.int (5 : Int32)), .unset, .unset, .unset] [])) _
      refine XS.iloadN X0.here hx rfl (hb hby at_120) rfl ?_
      show Steps p.tables e below (s₁.setTop (mkF m 121 #[.val (.int p1), .val (.int (5 : Int32)), .unset, .unset, .unset] [(.int (5 : Int32))])) _
      refine XS.iconst X0.here hx rfl (hb hby at_121) ?_
      show Steps p.tables e below (s₁.setTop (mkF m 122 #[.val (.int p1), .val (.int (5 : Int32)), .unset, .unset, .unset] [(.int (3 : Int32)), (.int (5 : Int32))])) _
      refine XS.icmpYes X0.here hx rfl (pc0 := 122) (pc' := 156) rfl (hb hby at_122) rfl (feq (by decide : ¬ ((5 : Int32) = (3 : Int32)))).2 (by decide) (by decide) ?_
      show Steps p.tables e below (s₁.setTop (mkF m 156 #[.val (.int p1), .val (.int (5 : Int32)), .unset, .unset, .unset] [])) _
      refine XS.iloadN X0.here hx rfl (hb hby at_156) rfl ?_
      show Steps p.tables e below (s₁.setTop (mkF m 157 #[.val (.int p1), .val (.int (5 : Int32)), .unset, .unset, .unset] [(.int (5 : Int32))])) _
      refine XS.iconst X0.here hx rfl (hb hby at_157) ?_
      show Steps p.tables e below (s₁.setTop (mkF m 158 #[.val (.int p1), .val (.int (5 : Int32)), .unset, .unset, .unset] [(.int (4 : Int32)), (.int (5 : Int32))])) _
      refine XS.icmpYes X0.here hx rfl (pc0 := 158) (pc' := 192) rfl (hb hby at_158) rfl (feq (by decide : ¬ ((5 : Int32) = (4 : Int32)))).2 (by decide) (by decide) ?_
      show Steps p.tables e below (s₁.setTop (mkF m 192 #[.val (.int p1), .val (.int (5 : Int32)), .unset, .unset, .unset] [])) _
      refine XS.bipush X0.here hx rfl (hb hby at_192) ?_
      show Steps p.tables e below (s₁.setTop (mkF m 194 #[.val (.int p1), .val (.int (5 : Int32)), .unset, .unset, .unset] [(.int (7 : Int32))])) _
      refine st64 _ ?_
      show Steps p.tables e below (T64.setTop (mkF m 196 #[.val (.int p1), .val (.int (5 : Int32)), .unset, .unset, .unset] [(.ref b64)])) _
      refine XS.dup X64.here hx rfl (hb hby at_196) rfl rfl ?_
      show Steps p.tables e below (T64.setTop (mkF m 197 #[.val (.int p1), .val (.int (5 : Int32)), .unset, .unset, .unset] [(.ref b64), (.ref b64)])) _
      refine XS.iconst X64.here hx rfl (hb hby at_197) ?_
      show Steps p.tables e below (T64.setTop (mkF m 198 #[.val (.int p1), .val (.int (5 : Int32)), .unset, .unset, .unset] [(.int (0 : Int32)), (.ref b64), (.ref b64)])) _
      refine XS.bipush X64.here hx rfl (hb hby at_198) ?_
      show Steps p.tables e below (T64.setTop (mkF m 200 #[.val (.int p1), .val (.int (5 : Int32)), .unset, .unset, .unset] [(.int (83 : Int32)), (.int (0 : Int32)), (.ref b64), (.ref b64)])) _
      refine st65 _ ?_
      show Steps p.tables e below (T65.setTop (mkF m 201 #[.val (.int p1), .val (.int (5 : Int32)), .unset, .unset, .unset] [(.ref b64)])) _
      refine XS.dup X65.here hx rfl (hb hby at_201) rfl rfl ?_
      show Steps p.tables e below (T65.setTop (mkF m 202 #[.val (.int p1), .val (.int (5 : Int32)), .unset, .unset, .unset] [(.ref b64), (.ref b64)])) _
      refine XS.iconst X65.here hx rfl (hb hby at_202) ?_
      show Steps p.tables e below (T65.setTop (mkF m 203 #[.val (.int p1), .val (.int (5 : Int32)), .unset, .unset, .unset] [(.int (1 : Int32)), (.ref b64), (.ref b64)])) _
      refine XS.bipush X65.here hx rfl (hb hby at_203) ?_
      show Steps p.tables e below (T65.setTop (mkF m 205 #[.val (.int p1), .val (.int (5 : Int32)), .unset, .unset, .unset] [(.int (117 : Int32)), (.int (1 : Int32)), (.ref b64), (.ref b64)])) _
      refine st66 _ ?_
      show Steps p.tables e below (T66.setTop (mkF m 206 #[.val (.int p1), .val (.int (5 : Int32)), .unset, .unset, .unset] [(.ref b64)])) _
      refine XS.dup X66.here hx rfl (hb hby at_206) rfl rfl ?_
      show Steps p.tables e below (T66.setTop (mkF m 207 #[.val (.int p1), .val (.int (5 : Int32)), .unset, .unset, .unset] [(.ref b64), (.ref b64)])) _
      refine XS.iconst X66.here hx rfl (hb hby at_207) ?_
      show Steps p.tables e below (T66.setTop (mkF m 208 #[.val (.int p1), .val (.int (5 : Int32)), .unset, .unset, .unset] [(.int (2 : Int32)), (.ref b64), (.ref b64)])) _
      refine XS.bipush X66.here hx rfl (hb hby at_208) ?_
      show Steps p.tables e below (T66.setTop (mkF m 210 #[.val (.int p1), .val (.int (5 : Int32)), .unset, .unset, .unset] [(.int (99 : Int32)), (.int (2 : Int32)), (.ref b64), (.ref b64)])) _
      refine st67 _ ?_
      show Steps p.tables e below (T67.setTop (mkF m 211 #[.val (.int p1), .val (.int (5 : Int32)), .unset, .unset, .unset] [(.ref b64)])) _
      refine XS.dup X67.here hx rfl (hb hby at_211) rfl rfl ?_
      show Steps p.tables e below (T67.setTop (mkF m 212 #[.val (.int p1), .val (.int (5 : Int32)), .unset, .unset, .unset] [(.ref b64), (.ref b64)])) _
      refine XS.iconst X67.here hx rfl (hb hby at_212) ?_
      show Steps p.tables e below (T67.setTop (mkF m 213 #[.val (.int p1), .val (.int (5 : Int32)), .unset, .unset, .unset] [(.int (3 : Int32)), (.ref b64), (.ref b64)])) _
      refine XS.bipush X67.here hx rfl (hb hby at_213) ?_
      show Steps p.tables e below (T67.setTop (mkF m 215 #[.val (.int p1), .val (.int (5 : Int32)), .unset, .unset, .unset] [(.int (99 : Int32)), (.int (3 : Int32)), (.ref b64), (.ref b64)])) _
      refine st68 _ ?_
      show Steps p.tables e below (T68.setTop (mkF m 216 #[.val (.int p1), .val (.int (5 : Int32)), .unset, .unset, .unset] [(.ref b64)])) _
      refine XS.dup X68.here hx rfl (hb hby at_216) rfl rfl ?_
      show Steps p.tables e below (T68.setTop (mkF m 217 #[.val (.int p1), .val (.int (5 : Int32)), .unset, .unset, .unset] [(.ref b64), (.ref b64)])) _
      refine XS.iconst X68.here hx rfl (hb hby at_217) ?_
      show Steps p.tables e below (T68.setTop (mkF m 218 #[.val (.int p1), .val (.int (5 : Int32)), .unset, .unset, .unset] [(.int (4 : Int32)), (.ref b64), (.ref b64)])) _
      refine XS.bipush X68.here hx rfl (hb hby at_218) ?_
      show Steps p.tables e below (T68.setTop (mkF m 220 #[.val (.int p1), .val (.int (5 : Int32)), .unset, .unset, .unset] [(.int (101 : Int32)), (.int (4 : Int32)), (.ref b64), (.ref b64)])) _
      refine st69 _ ?_
      show Steps p.tables e below (T69.setTop (mkF m 221 #[.val (.int p1), .val (.int (5 : Int32)), .unset, .unset, .unset] [(.ref b64)])) _
      refine XS.dup X69.here hx rfl (hb hby at_221) rfl rfl ?_
      show Steps p.tables e below (T69.setTop (mkF m 222 #[.val (.int p1), .val (.int (5 : Int32)), .unset, .unset, .unset] [(.ref b64), (.ref b64)])) _
      refine XS.iconst X69.here hx rfl (hb hby at_222) ?_
      show Steps p.tables e below (T69.setTop (mkF m 223 #[.val (.int p1), .val (.int (5 : Int32)), .unset, .unset, .unset] [(.int (5 : Int32)), (.ref b64), (.ref b64)])) _
      refine XS.bipush X69.here hx rfl (hb hby at_223) ?_
      show Steps p.tables e below (T69.setTop (mkF m 225 #[.val (.int p1), .val (.int (5 : Int32)), .unset, .unset, .unset] [(.int (115 : Int32)), (.int (5 : Int32)), (.ref b64), (.ref b64)])) _
      refine st70 _ ?_
      show Steps p.tables e below (T70.setTop (mkF m 226 #[.val (.int p1), .val (.int (5 : Int32)), .unset, .unset, .unset] [(.ref b64)])) _
      refine XS.dup X70.here hx rfl (hb hby at_226) rfl rfl ?_
      show Steps p.tables e below (T70.setTop (mkF m 227 #[.val (.int p1), .val (.int (5 : Int32)), .unset, .unset, .unset] [(.ref b64), (.ref b64)])) _
      refine XS.bipush X70.here hx rfl (hb hby at_227) ?_
      show Steps p.tables e below (T70.setTop (mkF m 229 #[.val (.int p1), .val (.int (5 : Int32)), .unset, .unset, .unset] [(.int (6 : Int32)), (.ref b64), (.ref b64)])) _
      refine XS.bipush X70.here hx rfl (hb hby at_229) ?_
      show Steps p.tables e below (T70.setTop (mkF m 231 #[.val (.int p1), .val (.int (5 : Int32)), .unset, .unset, .unset] [(.int (115 : Int32)), (.int (6 : Int32)), (.ref b64), (.ref b64)])) _
      refine st71 _ ?_
      show Steps p.tables e below (T71.setTop (mkF m 232 #[.val (.int p1), .val (.int (5 : Int32)), .unset, .unset, .unset] [(.ref b64)])) _
      refine XS.astoreN X71.here hx rfl (hb hby at_232) rfl rfl (l' := #[.val (.int p1), .val (.int (5 : Int32)), .val (.ref b64), .unset, .unset]) rfl ?_
      show Steps p.tables e below (T71.setTop (mkF m 233 #[.val (.int p1), .val (.int (5 : Int32)), .val (.ref b64), .unset, .unset] [])) _
      refine st72 _ ?_
      show Steps p.tables e below (T72.setTop (mkF m 236 #[.val (.int p1), .val (.int (5 : Int32)), .val (.ref b64), .unset, .unset] [(.ref w_SUCCESS)])) _
      refine XS.astoreN X72.here hx rfl (hb hby at_236) rfl rfl (l' := #[.val (.int p1), .val (.int (5 : Int32)), .val (.ref b64), .val (.ref w_SUCCESS), .unset]) rfl ?_
      show Steps p.tables e below (T72.setTop (mkF m 237 #[.val (.int p1), .val (.int (5 : Int32)), .val (.ref b64), .val (.ref w_SUCCESS), .unset] [])) _
      refine st73 _ ?_
      show Steps p.tables e below (T73.setTop (mkF m 240 #[.val (.int p1), .val (.int (5 : Int32)), .val (.ref b64), .val (.ref w_SUCCESS), .unset] [(.ref b73)])) _
      refine XS.dup X73.here hx rfl (hb hby at_240) rfl rfl ?_
      show Steps p.tables e below (T73.setTop (mkF m 241 #[.val (.int p1), .val (.int (5 : Int32)), .val (.ref b64), .val (.ref w_SUCCESS), .unset] [(.ref b73), (.ref b73)])) _
      refine XS.aloadN X73.here hx rfl (hb hby at_241) rfl rfl ?_
      show Steps p.tables e below (T73.setTop (mkF m 242 #[.val (.int p1), .val (.int (5 : Int32)), .val (.ref b64), .val (.ref w_SUCCESS), .unset] [(.ref b64), (.ref b73), (.ref b73)])) _
      refine st76.trans ?_
      show Steps p.tables e below (T76.setTop (mkF m 245 #[.val (.int p1), .val (.int (5 : Int32)), .val (.ref b64), .val (.ref w_SUCCESS), .unset] [(.ref b73)])) _
      refine st77 _ ?_
      show Steps p.tables e below (T77.setTop (mkF m 248 #[.val (.int p1), .val (.int (5 : Int32)), .val (.ref b64), .val (.ref w_SUCCESS), .unset] [(.ref w_SUCCESS)])) _
      refine XS.astore X77.here hx rfl (hb hby at_248) rfl rfl (l' := #[.val (.int p1), .val (.int (5 : Int32)), .val (.ref b64), .val (.ref w_SUCCESS), .val (.ref w_SUCCESS)]) rfl ?_
      show Steps p.tables e below (T77.setTop (mkF m 250 #[.val (.int p1), .val (.int (5 : Int32)), .val (.ref b64), .val (.ref w_SUCCESS), .val (.ref w_SUCCESS)] [])) _
      refine XS.aload X77.here hx rfl (hb hby at_250) rfl rfl ?_
      show Steps p.tables e below (T77.setTop (mkF m 252 #[.val (.int p1), .val (.int (5 : Int32)), .val (.ref b64), .val (.ref w_SUCCESS), .val (.ref w_SUCCESS)] [(.ref w_SUCCESS)])) _
      refine XS.aloadN X77.here hx rfl (hb hby at_252) rfl rfl ?_
      show Steps p.tables e below (T77.setTop (mkF m 253 #[.val (.int p1), .val (.int (5 : Int32)), .val (.ref b64), .val (.ref w_SUCCESS), .val (.ref w_SUCCESS)] [(.ref w_SUCCESS), (.ref w_SUCCESS)])) _
      refine Jvm.RoadKit.acmp (g := (mkF m 253 #[.val (.int p1), .val (.int (5 : Int32)), .val (.ref b64), .val (.ref w_SUCCESS), .val (.ref w_SUCCESS)] [(.ref w_SUCCESS), (.ref w_SUCCESS)])) X77 hx rfl rfl rfl (pc0 := 253) (pc' := 256) (same := true) rfl (hb hby at_253) rfl (decide_eq_true rfl) (by decide) (by decide) ?_
      show Steps p.tables e below (T77.setTop (mkF m 256 #[.val (.int p1), .val (.int (5 : Int32)), .val (.ref b64), .val (.ref w_SUCCESS), .val (.ref w_SUCCESS)] [])) _
      refine XS.iconst X77.here hx rfl (hb hby at_256) ?_
      show Steps p.tables e below (T77.setTop (mkF m 257 #[.val (.int p1), .val (.int (5 : Int32)), .val (.ref b64), .val (.ref w_SUCCESS), .val (.ref w_SUCCESS)] [(.int (1 : Int32))])) _
      refine XS.goto X77.here hx rfl (pc0 := 257) (pc' := 261) rfl (hb hby at_257) (by decide) (by decide) ?_
      show Steps p.tables e below (T77.setTop (mkF m 261 #[.val (.int p1), .val (.int (5 : Int32)), .val (.ref b64), .val (.ref w_SUCCESS), .val (.ref w_SUCCESS)] [(.int (1 : Int32))])) _
      exact retN X77 hx (t := .boolean) Bd.returns (by simp) (hb hby at_261) hr
    · show Q_rm0 Z p1 wV kV w_START w_TASK w_WAIT w_FORK w_JOIN w_SUCCESS s0u s0t s0k s1u s1t s1k s2u s2t s2k s3u s3t s3k s4u s4t s4k s5u s5t s5k zc h0 n0 _ T77.heap _
      exact ⟨rfl, N77⟩
set_option maxRecDepth 65536 in
set_option maxHeartbeats 40000000 in
theorem comes_1 {Post : Tables → Env → Array Value → State → Outcome → State → Prop} (hpost : ∀ tb e args s v u, (limb_1_1.after args s (.returned v) u = true ∧ limb_1_2.after args s (.returned v) u = true ∧ True) → FrameEnd s (.returned v) u (Jvm.fieldLocs frame_1_writes args s ++ Jvm.arrayLocs frame_1_arrays args s ++ Jvm.staticLocs frame_1_statics s) 16 128 → Post tb e args s (.returned v) u) :
    ArmFor flags0 classFile x code maxLocals ret World_1 tables_1 room_1 Calls_1 rest_1 Pre_1 Post := by
  intro l hfl _ _ p e ha hc hk s m args below hf hA hF happ hP
  obtain ⟨hcalls, hrest, hpre⟩ := hP
  obtain ⟨-, -, -, hnamed, -, -, -, hat⟩ := (Spec.applies_iff hf).mp happ
  obtain ⟨hg, hn⟩ := and_e (Cond.before_iff.mp (show (Jvm.Cond.and given_1 narrow_1).before args s = true from hpre))
  obtain ⟨hcount, hgs⟩ := and_e hg
  obtain ⟨w0, rfl⟩ : ∃ w0 : Value, args = #[w0] := by
    have hs : args.size = 1 := by simpa [Cond.value, given_1] using hcount
    obtain ⟨L⟩ := args
    match L, hs with
    | [w0], _ => exact ⟨w0, rfl⟩
  have hw := fun d (hd : d ∈ tables_1) => atoms_spec (ws := Jvm.Cond.code x code maxLocals ret :: tables_1) hat d (List.mem_cons_of_mem _ hd)
  have hfit : Fit s := fun {y c} hc i hi => by
    obtain ⟨ha, rfl⟩ := Array.getElem?_eq_some_iff.mp hc
    have q := List.all_eq_true.mp ((Array.all_eq_true_iff_forall_mem.mp hF) _ (Array.getElem_mem ha)) i (List.mem_range.mpr hi)
    simpa [Array.getElem?_eq_getElem hi] using q
  obtain ⟨hsets, hown0⟩ := atoms_of _ (rest_1_c_eq ▸ (show rest_1_c.before _ s = true from hrest))
  have hr0 := Cond.before_iff.mp hown0
  obtain ⟨i0, ei0⟩ := is_v hgs
  obtain rfl : w0 = (.int i0) := Option.some.inj ei0
  obtain ⟨c0, hr_0⟩ := and_e hn
  obtain ⟨c1, hr_1⟩ := and_e hr_0
  obtain ⟨c2, hr_2⟩ := and_e hr_1
  obtain ⟨c3, hr_3⟩ := and_e hr_2
  obtain ⟨c4, hr_4⟩ := and_e hr_3
  obtain ⟨c5, hr_5⟩ := and_e hr_4
  obtain ⟨c6, hr_6⟩ := and_e hr_5
  obtain ⟨c7, hr_7⟩ := and_e hr_6
  obtain ⟨c8, hr_8⟩ := and_e hr_7
  obtain ⟨c9, hr_9⟩ := and_e hr_8
  obtain ⟨c10, hr_10⟩ := and_e hr_9
  obtain ⟨c11, hr_11⟩ := and_e hr_10
  obtain ⟨c12, hr_12⟩ := and_e hr_11
  obtain ⟨c13, hr_13⟩ := and_e hr_12
  obtain ⟨c14, hr_14⟩ := and_e hr_13
  obtain ⟨c15, hr_15⟩ := and_e hr_14
  obtain ⟨c16, hr_16⟩ := and_e hr_15
  obtain ⟨c17, hr_17⟩ := and_e hr_16
  obtain ⟨c18, hr_18⟩ := and_e hr_17
  obtain ⟨c19, hr_19⟩ := and_e hr_18
  obtain ⟨c20, hr_20⟩ := and_e hr_19
  obtain ⟨c21, hr_21⟩ := and_e hr_20
  obtain ⟨c22, hr_22⟩ := and_e hr_21
  obtain ⟨c23, hr_23⟩ := and_e hr_22
  obtain ⟨c24, hr_24⟩ := and_e hr_23
  obtain ⟨c25, hr_25⟩ := and_e hr_24
  obtain ⟨c26, hr_26⟩ := and_e hr_25
  obtain ⟨c27, hr_27⟩ := and_e hr_26
  obtain ⟨c28, hr_28⟩ := and_e hr_27
  obtain ⟨c29, hr_29⟩ := and_e hr_28
  obtain ⟨c30, hr_30⟩ := and_e hr_29
  obtain ⟨c31, hr_31⟩ := and_e hr_30
  obtain ⟨c32, hr_32⟩ := and_e hr_31
  obtain ⟨c33, hr_33⟩ := and_e hr_32
  obtain ⟨c34, hr_34⟩ := and_e hr_33
  obtain ⟨c35, hr_35⟩ := and_e hr_34
  obtain ⟨c36, hr_36⟩ := and_e hr_35
  obtain ⟨c37, hr_37⟩ := and_e hr_36
  obtain ⟨c38, hr_38⟩ := and_e hr_37
  obtain ⟨c39, hr_39⟩ := and_e hr_38
  obtain ⟨c40, hr_40⟩ := and_e hr_39
  obtain ⟨c41, hr_41⟩ := and_e hr_40
  obtain ⟨c42, hr_42⟩ := and_e hr_41
  obtain ⟨c43, hr_43⟩ := and_e hr_42
  obtain ⟨c44, hr_44⟩ := and_e hr_43
  obtain ⟨c45, hr_45⟩ := and_e hr_44
  obtain ⟨c46, hr_46⟩ := and_e hr_45
  obtain ⟨c47, hr_47⟩ := and_e hr_46
  obtain ⟨c48, hr_48⟩ := and_e hr_47
  obtain ⟨c49, hr_49⟩ := and_e hr_48
  obtain ⟨c50, hr_50⟩ := and_e hr_49
  obtain ⟨c51, hr_51⟩ := and_e hr_50
  obtain ⟨c52, hr_52⟩ := and_e hr_51
  obtain ⟨c53, hr_53⟩ := and_e hr_52
  obtain ⟨c54, hr_54⟩ := and_e hr_53
  obtain ⟨c55, hr_55⟩ := and_e hr_54
  obtain ⟨c56, hr_56⟩ := and_e hr_55
  obtain ⟨c57, hr_57⟩ := and_e hr_56
  obtain ⟨c58, hr_58⟩ := and_e hr_57
  obtain ⟨c59, hr_59⟩ := and_e hr_58
  obtain ⟨c60, hr_60⟩ := and_e hr_59
  obtain ⟨c61, hr_61⟩ := and_e hr_60
  obtain ⟨c62, hr_62⟩ := and_e hr_61
  obtain ⟨c63, hr_63⟩ := and_e hr_62
  obtain ⟨c64, hr_64⟩ := and_e hr_63
  obtain ⟨c65, hr_65⟩ := and_e hr_64
  have c66 := hr_65
  obtain ⟨w_START, ev_START⟩ := exa_v c0
  have S_START : Sta s s.heap "com/example/nevermind/nevermind/graphs/NodeType" "START" "Lcom/example/nevermind/nevermind/graphs/NodeType;" (.ref w_START) := Sta.start ev_START (Or.inr ⟨(hw _ (List.mem_of_getElem? (i := 3) rfl)), (hw _ (List.mem_of_getElem? (i := 4) rfl))⟩)
  obtain ⟨w_TASK, ev_TASK⟩ := exa_v c5
  have S_TASK : Sta s s.heap "com/example/nevermind/nevermind/graphs/NodeType" "TASK" "Lcom/example/nevermind/nevermind/graphs/NodeType;" (.ref w_TASK) := Sta.start ev_TASK (Or.inr ⟨(hw _ (List.mem_of_getElem? (i := 3) rfl)), (hw _ (List.mem_of_getElem? (i := 49) rfl))⟩)
  obtain ⟨w_WAIT, ev_WAIT⟩ := exa_v c7
  have S_WAIT : Sta s s.heap "com/example/nevermind/nevermind/graphs/NodeType" "WAIT" "Lcom/example/nevermind/nevermind/graphs/NodeType;" (.ref w_WAIT) := Sta.start ev_WAIT (Or.inr ⟨(hw _ (List.mem_of_getElem? (i := 3) rfl)), (hw _ (List.mem_of_getElem? (i := 50) rfl))⟩)
  obtain ⟨w_FORK, ev_FORK⟩ := exa_v c9
  have S_FORK : Sta s s.heap "com/example/nevermind/nevermind/graphs/NodeType" "FORK" "Lcom/example/nevermind/nevermind/graphs/NodeType;" (.ref w_FORK) := Sta.start ev_FORK (Or.inr ⟨(hw _ (List.mem_of_getElem? (i := 3) rfl)), (hw _ (List.mem_of_getElem? (i := 51) rfl))⟩)
  obtain ⟨w_JOIN, ev_JOIN⟩ := exa_v c11
  have S_JOIN : Sta s s.heap "com/example/nevermind/nevermind/graphs/NodeType" "JOIN" "Lcom/example/nevermind/nevermind/graphs/NodeType;" (.ref w_JOIN) := Sta.start ev_JOIN (Or.inr ⟨(hw _ (List.mem_of_getElem? (i := 3) rfl)), (hw _ (List.mem_of_getElem? (i := 52) rfl))⟩)
  obtain ⟨w_SUCCESS, ev_SUCCESS⟩ := exa_v c13
  have S_SUCCESS : Sta s s.heap "com/example/nevermind/nevermind/graphs/NodeType" "SUCCESS" "Lcom/example/nevermind/nevermind/graphs/NodeType;" (.ref w_SUCCESS) := Sta.start ev_SUCCESS (Or.inr ⟨(hw _ (List.mem_of_getElem? (i := 3) rfl)), (hw _ (List.mem_of_getElem? (i := 53) rfl))⟩)
  obtain ⟨wV, evV⟩ := arr_v c1
  have S_V : Sta s s.heap "com/example/nevermind/nevermind/graphs/NodeType" "$VALUES" "[Lcom/example/nevermind/nevermind/graphs/NodeType;" (.ref wV) := Sta.start evV (Or.inr ⟨(hw _ (List.mem_of_getElem? (i := 3) rfl)), (hw _ (List.mem_of_getElem? (i := 41) rfl))⟩)
  obtain ⟨clV, ArV⟩ := Arr.start evV c1
  have E_V := Exa.start evV c2
  obtain ⟨hSV, -, hzV⟩ := own_len evV ArV c3
  have AV0 := own_elemR (j := (0 : Int32)) evV ArV c4 ev_START rfl (by decide)
  have AV1 := own_elemR (j := (1 : Int32)) evV ArV c6 ev_TASK rfl (by decide)
  have AV2 := own_elemR (j := (2 : Int32)) evV ArV c8 ev_WAIT rfl (by decide)
  have AV3 := own_elemR (j := (3 : Int32)) evV ArV c10 ev_FORK rfl (by decide)
  have AV4 := own_elemR (j := (4 : Int32)) evV ArV c12 ev_JOIN rfl (by decide)
  have AV5 := own_elemR (j := (5 : Int32)) evV ArV c14 ev_SUCCESS rfl (by decide)
  have V_V : Arv s s.heap wV clV.cls (.object "com/example/nevermind/nevermind/graphs/NodeType") (6 : Int32) [.ref w_START, .ref w_TASK, .ref w_WAIT, .ref w_FORK, .ref w_JOIN, .ref w_SUCCESS] .null := Arv.start hfit ArV hzV (len_of hSV (by decide)) (by decide) rfl ⟨AV0, AV1, AV2, AV3, AV4, AV5, trivial⟩
  obtain ⟨s0u, evs0u⟩ := exa_v c15
  have s0F : Fld s s.heap w_START "com/example/nevermind/nevermind/graphs/NodeType" "wireName" "Ljava/lang/String;" (.ref s0u) := Fld.start ((fld_at ev_START).symm.trans evs0u)
  have s0E := Exa.start evs0u c15
  have s0C := own_fld evs0u c16
  obtain ⟨s0t, evs0t⟩ := arr_v c17
  have s0V : Fld s s.heap s0u "java/lang/String" "value" "[B" (.ref s0t) := Fld.start ((fld_at evs0u).symm.trans evs0t)
  obtain ⟨cls0, Ars0⟩ := Arr.start evs0t c17
  obtain ⟨hSs0, -, hzs0⟩ := own_len evs0t Ars0 c18
  have Bs0_0 := own_elem (j := (0 : Int32)) evs0t Ars0 c55 (by decide)
  have Bs0_1 := own_elem (j := (1 : Int32)) evs0t Ars0 c56 (by decide)
  have Bs0_2 := own_elem (j := (2 : Int32)) evs0t Ars0 c57 (by decide)
  have Bs0_3 := own_elem (j := (3 : Int32)) evs0t Ars0 c58 (by decide)
  have Bs0_4 := own_elem (j := (4 : Int32)) evs0t Ars0 c59 (by decide)
  have s0K : Arv s s.heap s0t cls0.cls .byte (5 : Int32) (cs0.map Value.int) (.int 0) := Arv.start hfit Ars0 hzs0 (len_of hSs0 (by decide)) (by decide) rfl ⟨Bs0_0, Bs0_1, Bs0_2, Bs0_3, Bs0_4, trivial⟩
  obtain ⟨s1u, evs1u⟩ := exa_v c19
  have s1F : Fld s s.heap w_TASK "com/example/nevermind/nevermind/graphs/NodeType" "wireName" "Ljava/lang/String;" (.ref s1u) := Fld.start ((fld_at ev_TASK).symm.trans evs1u)
  have s1E := Exa.start evs1u c19
  have s1C := own_fld evs1u c20
  obtain ⟨s1t, evs1t⟩ := arr_v c21
  have s1V : Fld s s.heap s1u "java/lang/String" "value" "[B" (.ref s1t) := Fld.start ((fld_at evs1u).symm.trans evs1t)
  obtain ⟨cls1, Ars1⟩ := Arr.start evs1t c21
  obtain ⟨hSs1, -, hzs1⟩ := own_len evs1t Ars1 c22
  have Bs1_0 := own_elem (j := (0 : Int32)) evs1t Ars1 c23 (by decide)
  have Bs1_1 := own_elem (j := (1 : Int32)) evs1t Ars1 c40 (by decide)
  have Bs1_2 := own_elem (j := (2 : Int32)) evs1t Ars1 c41 (by decide)
  have Bs1_3 := own_elem (j := (3 : Int32)) evs1t Ars1 c42 (by decide)
  have s1K : Arv s s.heap s1t cls1.cls .byte (4 : Int32) (cs1.map Value.int) (.int 0) := Arv.start hfit Ars1 hzs1 (len_of hSs1 (by decide)) (by decide) rfl ⟨Bs1_0, Bs1_1, Bs1_2, Bs1_3, trivial⟩
  obtain ⟨s2u, evs2u⟩ := exa_v c24
  have s2F : Fld s s.heap w_WAIT "com/example/nevermind/nevermind/graphs/NodeType" "wireName" "Ljava/lang/String;" (.ref s2u) := Fld.start ((fld_at ev_WAIT).symm.trans evs2u)
  have s2E := Exa.start evs2u c24
  have s2C := own_fld evs2u c25
  obtain ⟨s2t, evs2t⟩ := arr_v c26
  have s2V : Fld s s.heap s2u "java/lang/String" "value" "[B" (.ref s2t) := Fld.start ((fld_at evs2u).symm.trans evs2t)
  obtain ⟨cls2, Ars2⟩ := Arr.start evs2t c26
  obtain ⟨hSs2, -, hzs2⟩ := own_len evs2t Ars2 c27
  have Bs2_0 := own_elem (j := (0 : Int32)) evs2t Ars2 c28 (by decide)
  have Bs2_1 := own_elem (j := (1 : Int32)) evs2t Ars2 c37 (by decide)
  have Bs2_2 := own_elem (j := (2 : Int32)) evs2t Ars2 c38 (by decide)
  have Bs2_3 := own_elem (j := (3 : Int32)) evs2t Ars2 c39 (by decide)
  have s2K : Arv s s.heap s2t cls2.cls .byte (4 : Int32) (cs2.map Value.int) (.int 0) := Arv.start hfit Ars2 hzs2 (len_of hSs2 (by decide)) (by decide) rfl ⟨Bs2_0, Bs2_1, Bs2_2, Bs2_3, trivial⟩
  obtain ⟨s3u, evs3u⟩ := exa_v c29
  have s3F : Fld s s.heap w_FORK "com/example/nevermind/nevermind/graphs/NodeType" "wireName" "Ljava/lang/String;" (.ref s3u) := Fld.start ((fld_at ev_FORK).symm.trans evs3u)
  have s3E := Exa.start evs3u c29
  have s3C := own_fld evs3u c30
  obtain ⟨s3t, evs3t⟩ := arr_v c31
  have s3V : Fld s s.heap s3u "java/lang/String" "value" "[B" (.ref s3t) := Fld.start ((fld_at evs3u).symm.trans evs3t)
  obtain ⟨cls3, Ars3⟩ := Arr.start evs3t c31
  obtain ⟨hSs3, -, hzs3⟩ := own_len evs3t Ars3 c32
  have Bs3_0 := own_elem (j := (0 : Int32)) evs3t Ars3 c33 (by decide)
  have Bs3_1 := own_elem (j := (1 : Int32)) evs3t Ars3 c34 (by decide)
  have Bs3_2 := own_elem (j := (2 : Int32)) evs3t Ars3 c35 (by decide)
  have Bs3_3 := own_elem (j := (3 : Int32)) evs3t Ars3 c36 (by decide)
  have s3K : Arv s s.heap s3t cls3.cls .byte (4 : Int32) (cs3.map Value.int) (.int 0) := Arv.start hfit Ars3 hzs3 (len_of hSs3 (by decide)) (by decide) rfl ⟨Bs3_0, Bs3_1, Bs3_2, Bs3_3, trivial⟩
  obtain ⟨s4u, evs4u⟩ := exa_v c43
  have s4F : Fld s s.heap w_JOIN "com/example/nevermind/nevermind/graphs/NodeType" "wireName" "Ljava/lang/String;" (.ref s4u) := Fld.start ((fld_at ev_JOIN).symm.trans evs4u)
  have s4E := Exa.start evs4u c43
  have s4C := own_fld evs4u c44
  obtain ⟨s4t, evs4t⟩ := arr_v c45
  have s4V : Fld s s.heap s4u "java/lang/String" "value" "[B" (.ref s4t) := Fld.start ((fld_at evs4u).symm.trans evs4t)
  obtain ⟨cls4, Ars4⟩ := Arr.start evs4t c45
  obtain ⟨hSs4, -, hzs4⟩ := own_len evs4t Ars4 c46
  have Bs4_0 := own_elem (j := (0 : Int32)) evs4t Ars4 c51 (by decide)
  have Bs4_1 := own_elem (j := (1 : Int32)) evs4t Ars4 c52 (by decide)
  have Bs4_2 := own_elem (j := (2 : Int32)) evs4t Ars4 c53 (by decide)
  have Bs4_3 := own_elem (j := (3 : Int32)) evs4t Ars4 c54 (by decide)
  have s4K : Arv s s.heap s4t cls4.cls .byte (4 : Int32) (cs4.map Value.int) (.int 0) := Arv.start hfit Ars4 hzs4 (len_of hSs4 (by decide)) (by decide) rfl ⟨Bs4_0, Bs4_1, Bs4_2, Bs4_3, trivial⟩
  obtain ⟨s5u, evs5u⟩ := exa_v c47
  have s5F : Fld s s.heap w_SUCCESS "com/example/nevermind/nevermind/graphs/NodeType" "wireName" "Ljava/lang/String;" (.ref s5u) := Fld.start ((fld_at ev_SUCCESS).symm.trans evs5u)
  have s5E := Exa.start evs5u c47
  have s5C := own_fld evs5u c48
  obtain ⟨s5t, evs5t⟩ := arr_v c49
  have s5V : Fld s s.heap s5u "java/lang/String" "value" "[B" (.ref s5t) := Fld.start ((fld_at evs5u).symm.trans evs5t)
  obtain ⟨cls5, Ars5⟩ := Arr.start evs5t c49
  obtain ⟨hSs5, -, hzs5⟩ := own_len evs5t Ars5 c50
  have Bs5_0 := own_elem (j := (0 : Int32)) evs5t Ars5 c60 (by decide)
  have Bs5_1 := own_elem (j := (1 : Int32)) evs5t Ars5 c61 (by decide)
  have Bs5_2 := own_elem (j := (2 : Int32)) evs5t Ars5 c62 (by decide)
  have Bs5_3 := own_elem (j := (3 : Int32)) evs5t Ars5 c63 (by decide)
  have Bs5_4 := own_elem (j := (4 : Int32)) evs5t Ars5 c64 (by decide)
  have Bs5_5 := own_elem (j := (5 : Int32)) evs5t Ars5 c65 (by decide)
  have Bs5_6 := own_elem (j := (6 : Int32)) evs5t Ars5 c66 (by decide)
  have s5K : Arv s s.heap s5t cls5.cls .byte (7 : Int32) (cs5.map Value.int) (.int 0) := Arv.start hfit Ars5 hzs5 (len_of hSs5 (by decide)) (by decide) rfl ⟨Bs5_0, Bs5_1, Bs5_2, Bs5_3, Bs5_4, Bs5_5, Bs5_6, trivial⟩
  obtain ⟨zc, evc⟩ := is_v (Cond.before_iff.mp (hsets _ (List.mem_of_getElem? (i := 1) rfl)))
  have S_C : Sta s s.heap "java/lang/String" "COMPACT_STRINGS" "Z" (.int zc) := Sta.start evc (Or.inl (hsets _ (List.mem_of_getElem? (i := 0) rfl)))
  have hzc : ¬ zc = 0 := gotF (Cond.eq_ints evc (Term.int_eval 0)) (not_v (Cond.before_iff.mp (hsets _ (List.mem_of_getElem? (i := 2) rfl))))
  obtain ⟨n, o, h1, h2, h3, _, L, rfl, ⟨rfl, N⟩, hq⟩ := rm0 l s _ hw tables_1 i0 wV clV.cls w_START w_TASK w_WAIT w_FORK w_JOIN w_SUCCESS s0u s0t cls0.cls s1u s1t cls1.cls s2u s2t cls2.cls s3u s3t cls3.cls s4u s4t cls4.cls s5u s5t cls5.cls zc s.heap s.heap.size (Nat.le_refl _) S_V V_V E_V s0F s0E s0V s0C s0K s1F s1E s1V s1C s1K s2F s2E s2V s2C s2K s3F s3E s3V s3C s3K s4F s4E s4V s4C s4K s5F s5E s5V s5C s5K S_C hzc S_START S_TASK S_WAIT S_FORK S_JOIN S_SUCCESS p e ha hc hk s m _ below hf ((Spec.applies_iff_loose hf).mp happ).1 ⟨rfl, State.Warmed39.refl s, rfl⟩ trivial
  refine ⟨n, _, h1, h2, h3, hpost _ _ _ _ _ _ ⟨Cond.after_iff.mpr rfl, Cond.after_iff.mpr (eq_i res_at (Term.int_eval (1)) rfl), trivial⟩ ⟨hq.1, hq.2.1, (hq.2.2.sift fun y hy => Or.inr (N y hy)).mono (by decide) (by decide)⟩⟩
theorem main_1_1 : Claimed_1_1 := comes_1 fun _ _ _ _ _ _ h hF => ⟨h.1, hF⟩
theorem main_1_2 : Claimed_1_2 := comes_1 fun _ _ _ _ _ _ h hF => ⟨h.2.1, hF⟩
end Jvm.Pilot.@@N@@
namespace Jvm.Pilot.@@N@@
open Jvm Jvm.ClassFile Sem Op Lib Jvm.Free Jvm.Stand Jvm.Pilot.@@N@@.Jvm.D
/-! MADE BY PROGRAM (witnessworld.py) out of the Statement's table words and the real class files: 22 classes; the members and pool entries that the words name. The judged class is class 1, her method 1. -/
namespace start1
open Jvm.ClassFile
def u (s : String) : CpInfo := .utf8 (stringToUtf16 s)
/-- a pool by its gaps: so many unusable entries, then the entry; so many at the end -/
def gap : Nat → List CpInfo → List CpInfo
  | 0, r => r
  | n + 1, r => .unusable :: gap n r
def poolList (es : List (Nat × CpInfo)) (last : Nat) : List CpInfo := es.foldr (fun e r => gap e.1 (e.2 :: r)) (gap last [])
def pool (es : List (Nat × CpInfo)) (last : Nat) : Array CpInfo := ⟨poolList es last⟩
def fileOf (pool : Array CpInfo) (this : Nat) (attrs : Array Attribute := #[]) (ms : Array MethodInfo := #[]) (fl : Nat := 33) (sup : Nat := 0) (ifs : Array Nat := #[]) (fds : Array FieldInfo := #[]) : ClassFile where
  minorVersion := 0
  majorVersion := 65
  constantPool := pool
  accessFlags := fl
  thisClass := this
  superClass := sup
  interfaces := ifs
  fields := fds
  methods := ms
  attributes := attrs
def plain (name : String) (sup : Option ClassId) : Class where
  name := name
  kind := .ordinary
  loader := none
  accessFlags := 33
  super := sup
  interfaces := #[]
  cf := none
  fields := #[]
  methods := #[]
  instanceTypes := #[]
  staticTypes := #[]
  resolved := #[]
  callSites := []
  init := .initialized
  statics := none
  mirror := none

def pool0 : Array CpInfo := pool [(5, u "<init>"), (0, u "()V"), (1, .class_ 10), (1, u "java/lang/Object"), (85, u "clone"), (0, u "()Ljava/lang/Object;")] 26

def k0c0 : Code := { maxStack := 0, maxLocals := 1, code := object_method_1_code, exceptionTable := #[], attributes := #[] }
def k0m0 : Method := { name := "<init>", desc := "()V", sig := { parameters := [], returnType := none }, accessFlags := 1, code := some k0c0 }
def k0m1 : Method := { name := "clone", desc := "()Ljava/lang/Object;", sig := { parameters := [], returnType := some (.object "java/lang/Object") }, accessFlags := 260, code := none }
/-- java/lang/Object -/
def k0 : Class := { plain "java/lang/Object" none with
  accessFlags := 33
  interfaces := #[]
  cf := some (fileOf pool0 8 #[] #[{ accessFlags := 1, nameIndex := 5, descriptorIndex := 6, attributes := #[] }, { accessFlags := 260, nameIndex := 96, descriptorIndex := 97, attributes := #[] }] 33 0 #[] #[])
  fields := #[]
  methods := #[k0m0, k0m1]
  instanceTypes := #[]
  staticTypes := #[]
  resolved := Array.replicate 124 none
  statics := none }

def pool1 : Array CpInfo := pool [(2, .class_ 4), (1, u "java/lang/Object"), (0, u "<init>"), (0, u "()V"), (0, .integer 2147483647), (0, .fieldref 9 10), (0, .class_ 11), (0, .nameAndType 12 13), (0, u "com/example/nevermind/nevermind/graphs/NodeType"), (0, u "START"), (0, u "Lcom/example/nevermind/nevermind/graphs/NodeType;"), (0, .fieldref 9 15), (0, .nameAndType 16 13), (0, u "TASK"), (0, .fieldref 9 18), (0, .nameAndType 19 13), (0, u "WAIT"), (0, .fieldref 9 21), (0, .nameAndType 22 13), (0, u "FORK"), (0, .fieldref 9 24), (0, .nameAndType 25 13), (0, u "JOIN"), (0, .fieldref 9 27), (0, .nameAndType 28 13), (0, u "SUCCESS"), (0, .class_ 30), (0, u "java/lang/String"), (0, .methodref 29 32), (0, .nameAndType 5 33), (0, u "([C)V"), (0, .methodref 9 35), (0, .nameAndType 36 37), (0, u "fromWireName"), (0, u "(Ljava/lang/String;)Lcom/example/nevermind/nevermind/graphs/NodeType;"), (0, .class_ 39), (0, u "com/example/nevermind/nevermind/graphs/NodeTypeFromWireNamePinLaw"), (2, u "law"), (0, u "(I)Z")] 5

def k1m0 : Method := { name := "<init>", desc := "()V", sig := { parameters := [], returnType := none }, accessFlags := 1, code := none }
def k1c1 : Code := { maxStack := 4, maxLocals := 5, code := code, exceptionTable := #[], attributes := #[] }
def k1m1 : Method := { name := "law", desc := "(I)Z", sig := { parameters := [.int], returnType := some .boolean }, accessFlags := 9, code := some k1c1 }
/-- com/example/nevermind/nevermind/graphs/NodeTypeFromWireNamePinLaw -/
def k1 : Class := { plain "com/example/nevermind/nevermind/graphs/NodeTypeFromWireNamePinLaw" (some 0) with
  accessFlags := 49
  interfaces := #[]
  cf := some (fileOf pool1 38 #[] #[{ accessFlags := 1, nameIndex := 5, descriptorIndex := 6, attributes := #[] }, { accessFlags := 9, nameIndex := 42, descriptorIndex := 43, attributes := #[] }] 49 2 #[] #[])
  fields := #[]
  methods := #[k1m0, k1m1]
  instanceTypes := #[]
  staticTypes := #[]
  resolved := Array.replicate 49 none
  statics := none }

def pool2 : Array CpInfo := pool [(1, .class_ 2), (0, u "java/lang/constant/Constable"), (0, .class_ 4), (0, u "java/lang/Object")] 6

/-- java/lang/constant/Constable -/
def k2 : Class := { plain "java/lang/constant/Constable" (some 0) with
  accessFlags := 1537
  interfaces := #[]
  cf := some (fileOf pool2 1 #[] #[] 1537 3 #[] #[])
  fields := #[]
  methods := #[]
  instanceTypes := #[]
  staticTypes := #[]
  resolved := Array.replicate 11 none
  statics := none }

def pool3 : Array CpInfo := pool [(1, .class_ 2), (0, u "java/lang/Comparable"), (0, .class_ 4), (0, u "java/lang/Object")] 7

/-- java/lang/Comparable -/
def k3 : Class := { plain "java/lang/Comparable" (some 0) with
  accessFlags := 1537
  interfaces := #[]
  cf := some (fileOf pool3 1 #[] #[] 1537 3 #[] #[])
  fields := #[]
  methods := #[]
  instanceTypes := #[]
  staticTypes := #[]
  resolved := Array.replicate 12 none
  statics := none }

def pool4 : Array CpInfo := pool [(1, .class_ 2), (0, u "java/io/Serializable"), (0, .class_ 4), (0, u "java/lang/Object")] 2

/-- java/io/Serializable -/
def k4 : Class := { plain "java/io/Serializable" (some 0) with
  accessFlags := 1537
  interfaces := #[]
  cf := some (fileOf pool4 1 #[] #[] 1537 3 #[] #[])
  fields := #[]
  methods := #[]
  instanceTypes := #[]
  staticTypes := #[]
  resolved := Array.replicate 7 none
  statics := none }

def pool5 : Array CpInfo := pool [(2, .class_ 4), (1, u "java/lang/Enum"), (0, u "name"), (0, u "Ljava/lang/String;"), (2, u "ordinal"), (0, u "I"), (1, .class_ 14), (1, u "java/lang/Object"), (4, u "hash"), (86, .class_ 108), (1, u "java/lang/Enum$EnumDesc"), (2, .class_ 112), (0, u "java/lang/constant/Constable"), (0, .class_ 114), (0, u "java/lang/Comparable"), (0, .class_ 116), (0, u "java/io/Serializable")] 87

/-- java/lang/Enum -/
def k5 : Class := { plain "java/lang/Enum" (some 0) with
  accessFlags := 1057
  interfaces := #[2, 3, 4]
  cf := some (fileOf pool5 2 #[.nestMembers #[106]] #[] 1057 12 #[111, 113, 115] #[{ accessFlags := 18, nameIndex := 5, descriptorIndex := 6, attributes := #[] }, { accessFlags := 18, nameIndex := 9, descriptorIndex := 10, attributes := #[] }, { accessFlags := 2, nameIndex := 19, descriptorIndex := 10, attributes := #[] }])
  fields := #[{ name := "name", type := (.object "java/lang/String"), accessFlags := 18, slot := 0, constantValue := 0 }, { name := "ordinal", type := .int, accessFlags := 18, slot := 1, constantValue := 0 }, { name := "hash", type := .int, accessFlags := 2, slot := 2, constantValue := 0 }]
  methods := #[]
  instanceTypes := #[(.object "java/lang/String"), .int, .int]
  staticTypes := #[]
  resolved := Array.replicate 204 none
  statics := none }

def pool6 : Array CpInfo := pool [(1, .class_ 2), (0, u "com/example/nevermind/nevermind/graphs/NodeType"), (2, u "START"), (0, u "Lcom/example/nevermind/nevermind/graphs/NodeType;"), (2, u "TASK"), (2, u "WAIT"), (2, u "FORK"), (2, u "JOIN"), (2, u "SUCCESS"), (0, .fieldref 1 23), (0, .nameAndType 24 25), (0, u "$VALUES"), (0, u "[Lcom/example/nevermind/nevermind/graphs/NodeType;"), (0, .methodref 27 28), (0, .class_ 25), (0, .nameAndType 29 30), (0, u "clone"), (0, u "()Ljava/lang/Object;"), (1, .class_ 34), (1, u "java/lang/Enum"), (6, .fieldref 1 42), (0, .nameAndType 43 44), (0, u "wireName"), (0, u "Ljava/lang/String;"), (0, .methodref 1 46), (0, .nameAndType 47 48), (0, u "values"), (0, u "()[Lcom/example/nevermind/nevermind/graphs/NodeType;"), (0, .methodref 50 51), (0, .class_ 52), (0, .nameAndType 53 54), (0, u "java/lang/String"), (0, u "equals"), (0, u "(Ljava/lang/Object;)Z"), (35, u "(Ljava/lang/String;)Lcom/example/nevermind/nevermind/graphs/NodeType;"), (3, u "fromWireName")] 21

def k6c0 : Code := { maxStack := 1, maxLocals := 0, code := prog_9_method_1_code, exceptionTable := #[], attributes := #[] }
def k6m0 : Method := { name := "values", desc := "()[Lcom/example/nevermind/nevermind/graphs/NodeType;", sig := { parameters := [], returnType := some (.array (.object "com/example/nevermind/nevermind/graphs/NodeType")) }, accessFlags := 9, code := some k6c0 }
def k6c1 : Code := { maxStack := 3, maxLocals := 5, code := prog_9_method_5_code, exceptionTable := #[], attributes := #[] }
def k6m1 : Method := { name := "fromWireName", desc := "(Ljava/lang/String;)Lcom/example/nevermind/nevermind/graphs/NodeType;", sig := { parameters := [(.object "java/lang/String")], returnType := some (.object "com/example/nevermind/nevermind/graphs/NodeType") }, accessFlags := 9, code := some k6c1 }
/-- com/example/nevermind/nevermind/graphs/NodeType -/
def k6 : Class := { plain "com/example/nevermind/nevermind/graphs/NodeType" (some 5) with
  accessFlags := 16433
  interfaces := #[]
  cf := some (fileOf pool6 1 #[] #[{ accessFlags := 9, nameIndex := 47, descriptorIndex := 48, attributes := #[] }, { accessFlags := 9, nameIndex := 94, descriptorIndex := 90, attributes := #[] }] 16433 32 #[] #[{ accessFlags := 16409, nameIndex := 5, descriptorIndex := 6, attributes := #[] }, { accessFlags := 16409, nameIndex := 9, descriptorIndex := 6, attributes := #[] }, { accessFlags := 16409, nameIndex := 12, descriptorIndex := 6, attributes := #[] }, { accessFlags := 16409, nameIndex := 15, descriptorIndex := 6, attributes := #[] }, { accessFlags := 16409, nameIndex := 18, descriptorIndex := 6, attributes := #[] }, { accessFlags := 16409, nameIndex := 21, descriptorIndex := 6, attributes := #[] }, { accessFlags := 18, nameIndex := 43, descriptorIndex := 44, attributes := #[] }, { accessFlags := 4122, nameIndex := 24, descriptorIndex := 25, attributes := #[] }])
  fields := #[{ name := "START", type := (.object "com/example/nevermind/nevermind/graphs/NodeType"), accessFlags := 16409, slot := 0, constantValue := 0 }, { name := "TASK", type := (.object "com/example/nevermind/nevermind/graphs/NodeType"), accessFlags := 16409, slot := 1, constantValue := 0 }, { name := "WAIT", type := (.object "com/example/nevermind/nevermind/graphs/NodeType"), accessFlags := 16409, slot := 2, constantValue := 0 }, { name := "FORK", type := (.object "com/example/nevermind/nevermind/graphs/NodeType"), accessFlags := 16409, slot := 3, constantValue := 0 }, { name := "JOIN", type := (.object "com/example/nevermind/nevermind/graphs/NodeType"), accessFlags := 16409, slot := 4, constantValue := 0 }, { name := "SUCCESS", type := (.object "com/example/nevermind/nevermind/graphs/NodeType"), accessFlags := 16409, slot := 5, constantValue := 0 }, { name := "wireName", type := (.object "java/lang/String"), accessFlags := 18, slot := 3, constantValue := 0 }, { name := "$VALUES", type := (.array (.object "com/example/nevermind/nevermind/graphs/NodeType")), accessFlags := 4122, slot := 6, constantValue := 0 }]
  methods := #[k6m0, k6m1]
  instanceTypes := #[(.object "java/lang/String"), .int, .int, (.object "java/lang/String")]
  staticTypes := #[(.object "com/example/nevermind/nevermind/graphs/NodeType"), (.object "com/example/nevermind/nevermind/graphs/NodeType"), (.object "com/example/nevermind/nevermind/graphs/NodeType"), (.object "com/example/nevermind/nevermind/graphs/NodeType"), (.object "com/example/nevermind/nevermind/graphs/NodeType"), (.object "com/example/nevermind/nevermind/graphs/NodeType"), (.array (.object "com/example/nevermind/nevermind/graphs/NodeType"))]
  resolved := Array.replicate 116 none
  statics := some 0 }

def pool7 : Array CpInfo := pool [(2, .class_ 4), (1, u "java/lang/CharSequence"), (42, .class_ 48), (0, u "java/lang/CharSequence$1CodePointIterator"), (10, .class_ 60), (0, u "java/lang/CharSequence$1CharIterator"), (5, .class_ 67), (0, u "java/lang/Object")] 63

/-- java/lang/CharSequence -/
def k7 : Class := { plain "java/lang/CharSequence" (some 0) with
  accessFlags := 1537
  interfaces := #[]
  cf := some (fileOf pool7 2 #[.nestMembers #[47, 59]] #[] 1537 66 #[] #[])
  fields := #[]
  methods := #[]
  instanceTypes := #[]
  staticTypes := #[]
  resolved := Array.replicate 131 none
  statics := none }

def pool8 : Array CpInfo := pool [(1, .class_ 2), (0, u "java/lang/constant/ConstantDesc"), (0, .class_ 4), (0, u "java/lang/Object")] 32

/-- java/lang/constant/ConstantDesc -/
def k8 : Class := { plain "java/lang/constant/ConstantDesc" (some 0) with
  accessFlags := 1537
  interfaces := #[]
  cf := some (fileOf pool8 1 #[] #[] 1537 3 #[] #[])
  fields := #[]
  methods := #[]
  instanceTypes := #[]
  staticTypes := #[]
  resolved := Array.replicate 37 none
  statics := none }

def pool9 : Array CpInfo := pool [(1, .methodref 2 3), (0, .class_ 4), (0, .nameAndType 5 6), (0, u "java/lang/Object"), (0, u "<init>"), (0, u "()V"), (2, .fieldref 10 11), (0, .class_ 12), (0, .nameAndType 13 14), (0, u "java/lang/String"), (0, u "value"), (0, u "[B"), (0, .fieldref 10 16), (0, .nameAndType 17 18), (0, u "coder"), (0, u "B"), (2, u "hash"), (0, u "I"), (2, u "hashIsZero"), (0, u "Z"), (0, .methodref 10 28), (0, .nameAndType 5 29), (0, u "([CIILjava/lang/Void;)V"), (8, .fieldref 10 39), (0, .nameAndType 40 26), (0, u "COMPACT_STRINGS"), (1, .class_ 44), (1, u "java/lang/StringUTF16"), (0, u "compress"), (1, .methodref 42 48), (0, .nameAndType 49 50), (0, u "coderFromArrayLen"), (0, u "([BI)B"), (56, .class_ 109), (1, u "java/lang/StringLatin1"), (67, .methodref 42 178), (0, .nameAndType 45 179), (0, u "([CII)[B"), (361, .methodref 107 542), (0, .nameAndType 543 544), (0, u "equals"), (0, u "([B[B)Z"), (28, u "(Ljava/lang/Object;)Z"), (1, .class_ 576), (0, u "java/lang/CharSequence"), (22, u "CASE_INSENSITIVE_ORDER"), (0, u "Ljava/util/Comparator;"), (409, u "([C)V"), (90, u "serialPersistentFields"), (0, u "[Ljava/io/ObjectStreamField;"), (0, .class_ 1104), (0, u "java/lang/String$CaseInsensitiveComparator"), (1, .class_ 1107), (0, u "java/io/Serializable"), (0, .class_ 1109), (0, u "java/lang/Comparable"), (0, .class_ 1111), (0, u "java/lang/constant/Constable"), (0, .class_ 1113), (0, u "java/lang/constant/ConstantDesc"), (2, u "serialVersionUID"), (0, u "J"), (3, u "REPL"), (0, u "C"), (2, u "LATIN1"), (1, u "UTF16")] 323

def k9m0 : Method := { name := "<init>", desc := "()V", sig := { parameters := [], returnType := none }, accessFlags := 1, code := none }
def k9c1 : Code := { maxStack := 5, maxLocals := 2, code := jdk_42_method_3_code, exceptionTable := #[], attributes := #[] }
def k9m1 : Method := { name := "<init>", desc := "([C)V", sig := { parameters := [(.array .char)], returnType := none }, accessFlags := 1, code := some k9c1 }
def k9c2 : Code := { maxStack := 2, maxLocals := 3, code := jdk_42_method_66_code, exceptionTable := #[], attributes := #[] }
def k9m2 : Method := { name := "equals", desc := "(Ljava/lang/Object;)Z", sig := { parameters := [(.object "java/lang/Object")], returnType := some .boolean }, accessFlags := 1, code := some k9c2 }
def k9c3 : Code := { maxStack := 4, maxLocals := 6, code := jdk_42_method_149_code, exceptionTable := #[], attributes := #[] }
def k9m3 : Method := { name := "<init>", desc := "([CIILjava/lang/Void;)V", sig := { parameters := [(.array .char), .int, .int, (.object "java/lang/Void")], returnType := none }, accessFlags := 2, code := some k9c3 }
/-- java/lang/String -/
def k9 : Class := { plain "java/lang/String" (some 0) with
  accessFlags := 49
  interfaces := #[4, 3, 7, 2, 8]
  cf := some (fileOf pool9 10 #[.nestMembers #[1103]] #[{ accessFlags := 1, nameIndex := 5, descriptorIndex := 6, attributes := #[] }, { accessFlags := 1, nameIndex := 5, descriptorIndex := 1010, attributes := #[] }, { accessFlags := 1, nameIndex := 543, descriptorIndex := 573, attributes := #[] }, { accessFlags := 2, nameIndex := 5, descriptorIndex := 29, attributes := #[] }] 49 2 #[1106, 1108, 575, 1110, 1112] #[{ accessFlags := 18, nameIndex := 13, descriptorIndex := 14, attributes := #[] }, { accessFlags := 18, nameIndex := 17, descriptorIndex := 18, attributes := #[] }, { accessFlags := 2, nameIndex := 21, descriptorIndex := 22, attributes := #[] }, { accessFlags := 2, nameIndex := 25, descriptorIndex := 26, attributes := #[] }, { accessFlags := 26, nameIndex := 1116, descriptorIndex := 1117, attributes := #[] }, { accessFlags := 24, nameIndex := 40, descriptorIndex := 26, attributes := #[] }, { accessFlags := 26, nameIndex := 1101, descriptorIndex := 1102, attributes := #[] }, { accessFlags := 26, nameIndex := 1121, descriptorIndex := 1122, attributes := #[] }, { accessFlags := 25, nameIndex := 599, descriptorIndex := 600, attributes := #[] }, { accessFlags := 24, nameIndex := 1125, descriptorIndex := 18, attributes := #[] }, { accessFlags := 24, nameIndex := 1127, descriptorIndex := 18, attributes := #[] }])
  fields := #[{ name := "value", type := (.array .byte), accessFlags := 18, slot := 0, constantValue := 0 }, { name := "coder", type := .byte, accessFlags := 18, slot := 1, constantValue := 0 }, { name := "hash", type := .int, accessFlags := 2, slot := 2, constantValue := 0 }, { name := "hashIsZero", type := .boolean, accessFlags := 2, slot := 3, constantValue := 0 }, { name := "serialVersionUID", type := .long, accessFlags := 26, slot := 0, constantValue := 0 }, { name := "COMPACT_STRINGS", type := .boolean, accessFlags := 24, slot := 1, constantValue := 0 }, { name := "serialPersistentFields", type := (.array (.object "java/io/ObjectStreamField")), accessFlags := 26, slot := 2, constantValue := 0 }, { name := "REPL", type := .char, accessFlags := 26, slot := 3, constantValue := 0 }, { name := "CASE_INSENSITIVE_ORDER", type := (.object "java/util/Comparator"), accessFlags := 25, slot := 4, constantValue := 0 }, { name := "LATIN1", type := .byte, accessFlags := 24, slot := 5, constantValue := 0 }, { name := "UTF16", type := .byte, accessFlags := 24, slot := 6, constantValue := 0 }]
  methods := #[k9m0, k9m1, k9m2, k9m3]
  instanceTypes := #[(.array .byte), .byte, .int, .boolean]
  staticTypes := #[.long, .boolean, (.array (.object "java/io/ObjectStreamField")), .char, (.object "java/util/Comparator"), .byte, .byte]
  resolved := Array.replicate 1451 none
  statics := some 1 }

def pool10 : Array CpInfo := pool [(6, .class_ 8), (1, u "java/lang/Object"), (0, u "<init>"), (0, u "()V"), (1, .class_ 14), (1, u "java/lang/StringUTF16"), (31, u "$assertionsDisabled"), (0, u "Z"), (13, u "HI_BYTE_SHIFT"), (0, u "I"), (2, u "LO_BYTE_SHIFT"), (49, .methodref 12 116), (0, .nameAndType 117 118), (0, u "compress"), (0, u "([CI[BII)I"), (3, u "([CII)[B"), (138, u "coderFromArrayLen"), (0, u "([BI)B"), (106, .class_ 371), (1, u "java/lang/StringUTF16$LinesSpliterator"), (58, u "MAX_LENGTH"), (196, .class_ 628), (0, u "java/lang/StringUTF16$CodePointsSpliterator"), (0, .class_ 630), (0, u "java/lang/StringUTF16$CharsSpliterator")] 4

def k10m0 : Method := { name := "<init>", desc := "()V", sig := { parameters := [], returnType := none }, accessFlags := 0, code := none }
def k10c1 : Code := { maxStack := 2, maxLocals := 2, code := jdk_52_method_15_code, exceptionTable := #[], attributes := #[] }
def k10m1 : Method := { name := "coderFromArrayLen", desc := "([BI)B", sig := { parameters := [(.array .byte), .int], returnType := some .byte }, accessFlags := 8, code := some k10c1 }
def k10c2 : Code := { maxStack := 5, maxLocals := 6, code := jdk_52_method_16_code, exceptionTable := #[], attributes := #[] }
def k10m2 : Method := { name := "compress", desc := "([CII)[B", sig := { parameters := [(.array .char), .int, .int], returnType := some (.array .byte) }, accessFlags := 9, code := some k10c2 }
def k10c3 : Code := { maxStack := 3, maxLocals := 7, code := jdk_52_method_21_code, exceptionTable := #[], attributes := #[] }
def k10m3 : Method := { name := "compress", desc := "([CI[BII)I", sig := { parameters := [(.array .char), .int, (.array .byte), .int, .int], returnType := some .int }, accessFlags := 9, code := some k10c3 }
/-- java/lang/StringUTF16 -/
def k10 : Class := { plain "java/lang/StringUTF16" (some 0) with
  accessFlags := 48
  interfaces := #[]
  cf := some (fileOf pool10 12 #[.nestMembers #[627, 629, 369]] #[{ accessFlags := 0, nameIndex := 9, descriptorIndex := 10, attributes := #[] }, { accessFlags := 8, nameIndex := 261, descriptorIndex := 262, attributes := #[] }, { accessFlags := 9, nameIndex := 117, descriptorIndex := 122, attributes := #[] }, { accessFlags := 9, nameIndex := 117, descriptorIndex := 118, attributes := #[] }] 48 6 #[] #[{ accessFlags := 26, nameIndex := 61, descriptorIndex := 62, attributes := #[] }, { accessFlags := 26, nameIndex := 65, descriptorIndex := 62, attributes := #[] }, { accessFlags := 24, nameIndex := 430, descriptorIndex := 62, attributes := #[] }, { accessFlags := 4120, nameIndex := 46, descriptorIndex := 47, attributes := #[] }])
  fields := #[{ name := "HI_BYTE_SHIFT", type := .int, accessFlags := 26, slot := 0, constantValue := 0 }, { name := "LO_BYTE_SHIFT", type := .int, accessFlags := 26, slot := 1, constantValue := 0 }, { name := "MAX_LENGTH", type := .int, accessFlags := 24, slot := 2, constantValue := 0 }, { name := "$assertionsDisabled", type := .boolean, accessFlags := 4120, slot := 3, constantValue := 0 }]
  methods := #[k10m0, k10m1, k10m2, k10m3]
  instanceTypes := #[]
  staticTypes := #[.int, .int, .int, .boolean]
  resolved := Array.replicate 635 none
  statics := none }

def pool11 : Array CpInfo := pool [(1, .class_ 2), (0, u "java/lang/Cloneable"), (0, .class_ 4), (0, u "java/lang/Object")] 2

/-- java/lang/Cloneable -/
def k11 : Class := { plain "java/lang/Cloneable" (some 0) with
  accessFlags := 1537
  interfaces := #[]
  cf := some (fileOf pool11 1 #[] #[] 1537 3 #[] #[])
  fields := #[]
  methods := #[]
  instanceTypes := #[]
  staticTypes := #[]
  resolved := Array.replicate 7 none
  statics := none }

def pool12 : Array CpInfo := pool [(4, .class_ 6), (1, u "java/lang/Object"), (0, u "<init>"), (0, u "()V"), (5, .class_ 16), (1, u "java/lang/StringLatin1"), (104, u "$assertionsDisabled"), (0, u "Z"), (98, .class_ 223), (1, u "java/lang/StringLatin1$LinesSpliterator"), (57, u "equals"), (0, u "([B[B)Z"), (107, .class_ 391), (0, u "java/lang/StringLatin1$CharsSpliterator")] 3

def k12m0 : Method := { name := "<init>", desc := "()V", sig := { parameters := [], returnType := none }, accessFlags := 0, code := none }
def k12c1 : Code := { maxStack := 3, maxLocals := 3, code := jdk_43_method_13_code, exceptionTable := #[], attributes := #[] }
def k12m1 : Method := { name := "equals", desc := "([B[B)Z", sig := { parameters := [(.array .byte), (.array .byte)], returnType := some .boolean }, accessFlags := 9, code := some k12c1 }
/-- java/lang/StringLatin1 -/
def k12 : Class := { plain "java/lang/StringLatin1" (some 0) with
  accessFlags := 48
  interfaces := #[]
  cf := some (fileOf pool12 14 #[.nestMembers #[390, 221]] #[{ accessFlags := 0, nameIndex := 7, descriptorIndex := 8, attributes := #[] }, { accessFlags := 9, nameIndex := 281, descriptorIndex := 282, attributes := #[] }] 48 4 #[] #[{ accessFlags := 4120, nameIndex := 121, descriptorIndex := 122, attributes := #[] }])
  fields := #[{ name := "$assertionsDisabled", type := .boolean, accessFlags := 4120, slot := 0, constantValue := 0 }]
  methods := #[k12m0, k12m1]
  instanceTypes := #[]
  staticTypes := #[.boolean]
  resolved := Array.replicate 395 none
  statics := none }

def pool13 : Array CpInfo := pool [(2, .class_ 4), (1, u "java/lang/Object"), (0, u "<init>"), (0, u "()V"), (17, .class_ 26), (1, u "jdk/internal/util/Preconditions"), (28, .class_ 56), (0, u "jdk/internal/util/Preconditions$4"), (57, .class_ 115), (0, u "jdk/internal/util/Preconditions$1"), (7, u "SIOOBE_FORMATTER"), (0, u "Ljava/util/function/BiFunction;"), (0, .class_ 126), (0, u "jdk/internal/util/Preconditions$2"), (3, u "AIOOBE_FORMATTER"), (0, .class_ 132), (0, u "jdk/internal/util/Preconditions$3"), (3, u "IOOBE_FORMATTER")] 57

def k13m0 : Method := { name := "<init>", desc := "()V", sig := { parameters := [], returnType := none }, accessFlags := 1, code := none }
/-- jdk/internal/util/Preconditions -/
def k13 : Class := { plain "jdk/internal/util/Preconditions" (some 0) with
  accessFlags := 33
  interfaces := #[]
  cf := some (fileOf pool13 24 #[.nestMembers #[55, 131, 125, 114]] #[{ accessFlags := 1, nameIndex := 5, descriptorIndex := 6, attributes := #[] }] 33 2 #[] #[{ accessFlags := 25, nameIndex := 123, descriptorIndex := 124, attributes := #[] }, { accessFlags := 25, nameIndex := 130, descriptorIndex := 124, attributes := #[] }, { accessFlags := 25, nameIndex := 136, descriptorIndex := 124, attributes := #[] }])
  fields := #[{ name := "SIOOBE_FORMATTER", type := (.object "java/util/function/BiFunction"), accessFlags := 25, slot := 0, constantValue := 0 }, { name := "AIOOBE_FORMATTER", type := (.object "java/util/function/BiFunction"), accessFlags := 25, slot := 1, constantValue := 0 }, { name := "IOOBE_FORMATTER", type := (.object "java/util/function/BiFunction"), accessFlags := 25, slot := 2, constantValue := 0 }]
  methods := #[k13m0]
  instanceTypes := #[]
  staticTypes := #[(.object "java/util/function/BiFunction"), (.object "java/util/function/BiFunction"), (.object "java/util/function/BiFunction")]
  resolved := Array.replicate 194 none
  statics := some 2 }

def pool14 : Array CpInfo := pool [(9, u "<init>"), (6, .class_ 18), (1, u "java/lang/Object"), (0, u "()V"), (1, .class_ 23), (1, u "jdk/internal/util/ArraysSupport"), (0, u "LOG2_ARRAY_LONG_INDEX_SCALE"), (0, u "I"), (2, u "U"), (0, u "Ljdk/internal/misc/Unsafe;"), (8, u "BIG_ENDIAN"), (0, u "Z"), (8, u "LOG2_BYTE_BIT_SIZE"), (4, u "LOG2_ARRAY_INT_INDEX_SCALE"), (54, u "JLA"), (0, u "Ljdk/internal/access/JavaLangAccess;"), (11, u "LOG2_ARRAY_BOOLEAN_INDEX_SCALE"), (9, u "LOG2_ARRAY_BYTE_INDEX_SCALE"), (5, u "LOG2_ARRAY_CHAR_INDEX_SCALE"), (5, u "LOG2_ARRAY_SHORT_INDEX_SCALE"), (18, u "LOG2_ARRAY_FLOAT_INDEX_SCALE"), (24, u "LOG2_ARRAY_DOUBLE_INDEX_SCALE"), (89, u "T_BOOLEAN"), (2, u "T_CHAR"), (1, u "T_FLOAT"), (1, u "T_DOUBLE"), (1, u "T_BYTE"), (1, u "T_SHORT"), (1, u "T_INT"), (1, u "T_LONG"), (1, u "SOFT_MAX_ARRAY_LENGTH")] 83

def k14m0 : Method := { name := "<init>", desc := "()V", sig := { parameters := [], returnType := none }, accessFlags := 2, code := none }
/-- jdk/internal/util/ArraysSupport -/
def k14 : Class := { plain "jdk/internal/util/ArraysSupport" (some 0) with
  accessFlags := 33
  interfaces := #[]
  cf := some (fileOf pool14 21 #[] #[{ accessFlags := 2, nameIndex := 9, descriptorIndex := 19, attributes := #[] }] 33 16 #[] #[{ accessFlags := 24, nameIndex := 28, descriptorIndex := 29, attributes := #[] }, { accessFlags := 26, nameIndex := 38, descriptorIndex := 39, attributes := #[] }, { accessFlags := 25, nameIndex := 121, descriptorIndex := 25, attributes := #[] }, { accessFlags := 25, nameIndex := 131, descriptorIndex := 25, attributes := #[] }, { accessFlags := 25, nameIndex := 137, descriptorIndex := 25, attributes := #[] }, { accessFlags := 25, nameIndex := 143, descriptorIndex := 25, attributes := #[] }, { accessFlags := 25, nameIndex := 53, descriptorIndex := 25, attributes := #[] }, { accessFlags := 25, nameIndex := 24, descriptorIndex := 25, attributes := #[] }, { accessFlags := 25, nameIndex := 162, descriptorIndex := 25, attributes := #[] }, { accessFlags := 25, nameIndex := 187, descriptorIndex := 25, attributes := #[] }, { accessFlags := 26, nameIndex := 48, descriptorIndex := 25, attributes := #[] }, { accessFlags := 25, nameIndex := 277, descriptorIndex := 25, attributes := #[] }, { accessFlags := 25, nameIndex := 280, descriptorIndex := 25, attributes := #[] }, { accessFlags := 25, nameIndex := 282, descriptorIndex := 25, attributes := #[] }, { accessFlags := 25, nameIndex := 284, descriptorIndex := 25, attributes := #[] }, { accessFlags := 25, nameIndex := 286, descriptorIndex := 25, attributes := #[] }, { accessFlags := 25, nameIndex := 288, descriptorIndex := 25, attributes := #[] }, { accessFlags := 25, nameIndex := 290, descriptorIndex := 25, attributes := #[] }, { accessFlags := 25, nameIndex := 292, descriptorIndex := 25, attributes := #[] }, { accessFlags := 26, nameIndex := 108, descriptorIndex := 109, attributes := #[] }, { accessFlags := 25, nameIndex := 294, descriptorIndex := 25, attributes := #[] }])
  fields := #[{ name := "U", type := (.object "jdk/internal/misc/Unsafe"), accessFlags := 24, slot := 0, constantValue := 0 }, { name := "BIG_ENDIAN", type := .boolean, accessFlags := 26, slot := 1, constantValue := 0 }, { name := "LOG2_ARRAY_BOOLEAN_INDEX_SCALE", type := .int, accessFlags := 25, slot := 2, constantValue := 0 }, { name := "LOG2_ARRAY_BYTE_INDEX_SCALE", type := .int, accessFlags := 25, slot := 3, constantValue := 0 }, { name := "LOG2_ARRAY_CHAR_INDEX_SCALE", type := .int, accessFlags := 25, slot := 4, constantValue := 0 }, { name := "LOG2_ARRAY_SHORT_INDEX_SCALE", type := .int, accessFlags := 25, slot := 5, constantValue := 0 }, { name := "LOG2_ARRAY_INT_INDEX_SCALE", type := .int, accessFlags := 25, slot := 6, constantValue := 0 }, { name := "LOG2_ARRAY_LONG_INDEX_SCALE", type := .int, accessFlags := 25, slot := 7, constantValue := 0 }, { name := "LOG2_ARRAY_FLOAT_INDEX_SCALE", type := .int, accessFlags := 25, slot := 8, constantValue := 0 }, { name := "LOG2_ARRAY_DOUBLE_INDEX_SCALE", type := .int, accessFlags := 25, slot := 9, constantValue := 0 }, { name := "LOG2_BYTE_BIT_SIZE", type := .int, accessFlags := 26, slot := 10, constantValue := 0 }, { name := "T_BOOLEAN", type := .int, accessFlags := 25, slot := 11, constantValue := 0 }, { name := "T_CHAR", type := .int, accessFlags := 25, slot := 12, constantValue := 0 }, { name := "T_FLOAT", type := .int, accessFlags := 25, slot := 13, constantValue := 0 }, { name := "T_DOUBLE", type := .int, accessFlags := 25, slot := 14, constantValue := 0 }, { name := "T_BYTE", type := .int, accessFlags := 25, slot := 15, constantValue := 0 }, { name := "T_SHORT", type := .int, accessFlags := 25, slot := 16, constantValue := 0 }, { name := "T_INT", type := .int, accessFlags := 25, slot := 17, constantValue := 0 }, { name := "T_LONG", type := .int, accessFlags := 25, slot := 18, constantValue := 0 }, { name := "JLA", type := (.object "jdk/internal/access/JavaLangAccess"), accessFlags := 26, slot := 19, constantValue := 0 }, { name := "SOFT_MAX_ARRAY_LENGTH", type := .int, accessFlags := 25, slot := 20, constantValue := 0 }]
  methods := #[k14m0]
  instanceTypes := #[]
  staticTypes := #[(.object "jdk/internal/misc/Unsafe"), .boolean, .int, .int, .int, .int, .int, .int, .int, .int, .int, .int, .int, .int, .int, .int, .int, .int, .int, (.object "jdk/internal/access/JavaLangAccess"), .int]
  resolved := Array.replicate 378 none
  statics := none }

/-- the primitive byte -/
def k15 : Class := { plain "byte" none with kind := .primitive 'B', accessFlags := 0x411 }
/-- [B -/
def k16 : Class := { plain "[B" (some 0) with kind := .array 15 .byte, interfaces := #[11, 4], accessFlags := 1041 }

/-- the primitive char -/
def k17 : Class := { plain "char" none with kind := .primitive 'C', accessFlags := 0x411 }
/-- [C -/
def k18 : Class := { plain "[C" (some 0) with kind := .array 17 .char, interfaces := #[11, 4], accessFlags := 1041 }

/-- the primitive int -/
def k19 : Class := { plain "int" none with kind := .primitive 'I', accessFlags := 0x411 }
/-- [I -/
def k20 : Class := { plain "[I" (some 0) with kind := .array 19 .int, interfaces := #[11, 4], accessFlags := 1041 }

/-- [Lcom/example/nevermind/nevermind/graphs/NodeType; -/
def k21 : Class := { plain "[Lcom/example/nevermind/nevermind/graphs/NodeType;" (some 0) with kind := .array 6 (.object "com/example/nevermind/nevermind/graphs/NodeType"), interfaces := #[11, 4], accessFlags := 1041 }

def heap : Heap := #[{ cls := 6, slots := #[.ref 4, .ref 5, .ref 6, .ref 7, .ref 8, .ref 9, .ref 3], vm := .statics 6 },
  { cls := 9, slots := #[.long 0, .int 1, .null, .int 0, .null, .int 0, .int 0], vm := .statics 9 },
  { cls := 13, slots := #[.null, .null, .null], vm := .statics 13 },
  { cls := 21, slots := #[.ref 4, .ref 5, .ref 6, .ref 7, .ref 8, .ref 9], vm := .none },
  { cls := 6, slots := #[.null, .int 0, .int 0, .ref 10], vm := .none },
  { cls := 6, slots := #[.null, .int 1, .int 0, .ref 11], vm := .none },
  { cls := 6, slots := #[.null, .int 2, .int 0, .ref 12], vm := .none },
  { cls := 6, slots := #[.null, .int 3, .int 0, .ref 13], vm := .none },
  { cls := 6, slots := #[.null, .int 4, .int 0, .ref 14], vm := .none },
  { cls := 6, slots := #[.null, .int 5, .int 0, .ref 15], vm := .none },
  { cls := 9, slots := #[.ref 16, .int 0, .int 0, .int 0], vm := .none },
  { cls := 9, slots := #[.ref 17, .int 0, .int 0, .int 0], vm := .none },
  { cls := 9, slots := #[.ref 18, .int 0, .int 0, .int 0], vm := .none },
  { cls := 9, slots := #[.ref 19, .int 0, .int 0, .int 0], vm := .none },
  { cls := 9, slots := #[.ref 20, .int 0, .int 0, .int 0], vm := .none },
  { cls := 9, slots := #[.ref 21, .int 0, .int 0, .int 0], vm := .none },
  { cls := 16, slots := #[.int 83, .int 116, .int 97, .int 114, .int 116], vm := .none },
  { cls := 16, slots := #[.int 84, .int 97, .int 115, .int 107], vm := .none },
  { cls := 16, slots := #[.int 87, .int 97, .int 105, .int 116], vm := .none },
  { cls := 16, slots := #[.int 70, .int 111, .int 114, .int 107], vm := .none },
  { cls := 16, slots := #[.int 74, .int 111, .int 105, .int 110], vm := .none },
  { cls := 16, slots := #[.int 83, .int 117, .int 99, .int 99, .int 101, .int 115, .int 115], vm := .none }]
def classes : Array Class := #[k0, k1, k2, k3, k4, k5, k6, k7, k8, k9, k10, k11, k12, k13, k14, k15, k16, k17, k18, k19, k20, k21]
def interned : List (Array UInt16 × Addr) := []
def slotsUsed : Nat := 99
def theMethod : MethodId := ⟨1, 1⟩
def args0 : Array Value := #[.int 5]
def aboutOver (below : List Frame) : State where
  vm := { classes := classes, interned := interned.toArray }
  heap := heap
  slotsUsed := slotsUsed
  threads := #[{ frames := .invoking theMethod args0 :: below }]
def below0 : List Frame := [.native { method := ⟨0, 0⟩, args := #[] }]
def about1 : State := aboutOver below0
def p0 : Program := .bare "" "" ""
def e0 : Env := launch0.env 0 0 0
theorem w_frames : about1.frames = Frame.invoking theMethod args0 :: below0 := rfl
set_option maxRecDepth 65536 in
theorem w_args : argsFit about1.vm theMethod args0 = true := by decide +kernel
set_option maxRecDepth 65536 in
theorem w_heap : heapFits about1 = true := by decide +kernel
set_option maxRecDepth 65536 in
theorem w_runnable : about1.curStatus? = some .runnable := by decide +kernel
set_option maxRecDepth 65536 in
theorem w_alone : about1.alone = true := by decide +kernel
set_option maxRecDepth 65536 in
theorem w_named : about1.methodNamed? x = some theMethod := by decide +kernel
set_option maxRecDepth 65536 in
theorem w_hears : about1.hears theMethod below0 = true := by decide +kernel
set_option maxRecDepth 65536 in
theorem w_ripe : about1.ripe theMethod args0 below0 = true := by decide +kernel
theorem w_running : about1.status = .running := rfl
set_option maxRecDepth 65536 in
theorem w_room : about1.hasRoom e0.platform room_1 = true :=
  launch0.hasRoom_least _ room_1 (by decide +kernel) (by decide +kernel) (by decide +kernel) (by decide +kernel) (by decide +kernel) (by decide +kernel)
theorem allAtoms_all (ts : List Jvm.Cond) (a : Array Jvm.Value) (st : Jvm.State) : (allAtoms ts).before a st = ts.all (fun c => c.before a st) := by
  induction ts with
  | nil => rfl
  | cons c t ih =>
    show (Jvm.Cond.and c (allAtoms t)).before a st = _
    rw [Jvm.Cond.before_and, ih, List.all_cons]
def words1 : List Jvm.Cond := Jvm.Cond.code x code maxLocals ret :: tables_1
/-- a 'code' word, met by the world's own term for the bytes: nothing is compared byte by byte -/
theorem code_word {y : MethodName} {bytes : ByteArray} {mx : Nat} {rt : Option FieldType} {a : Array Value} {s : State} {m : MethodId} {meth : Method} {c : Code} (h1 : s.methodNamed? y = some m) (h2 : s.vm.method? m = some meth) (h3 : meth.code = some c) (h4 : c.code = bytes)
    (h5 : (c.maxLocals == mx && c.exceptionTable.isEmpty && decide (c.maxStack ≤ mostOperands) && decide (meth.sig.returnType = rt) && !meth.locks && decide (parseMethodDescriptor y.desc = some meth.sig)) = true) : (Jvm.Cond.code y bytes mx rt).before a s = true := by
  simp only [Bool.and_eq_true, beq_iff_eq, Bool.not_eq_true', decide_eq_true_eq] at h5
  obtain ⟨⟨⟨⟨⟨g1, g2⟩, g3⟩, g4⟩, g5⟩, g6⟩ := h5
  simp [Cond.before, Cond.holds, Cond.value, h1, h2, h3, h4, g1, g2, g3, g4, g5, g6]
def isCode : Jvm.Cond → Bool
  | .code _ _ _ _ => true
  | _ => false
theorem all_split {L : List Jvm.Cond} {P : Jvm.Cond → Bool} (h1 : L.all (fun c => isCode c || P c) = true) (h2 : ∀ c ∈ L.filter isCode, P c = true) : L.all P = true := by
  refine List.all_eq_true.mpr fun c hc => ?_
  have h := List.all_eq_true.mp h1 c hc
  rcases Bool.eq_false_or_eq_true (isCode c) with hi | hi
  · exact h2 c (List.mem_filter.mpr ⟨hc, hi⟩)
  · simpa [hi] using h
set_option maxRecDepth 65536 in
theorem w_c0 : (Jvm.Cond.code x code maxLocals ret).before args0 about1 = true := code_word (m := ⟨1, 1⟩) (meth := k1m1) (c := k1c1) (by decide +kernel) rfl rfl rfl (by decide +kernel)
set_option maxRecDepth 65536 in
theorem w_c1 : (Jvm.Cond.code ({ cls := "java/lang/String", name := "<init>", desc := "([C)V" } : Jvm.MethodName) jdk_42_method_3_code (2 : Nat) (Option.none : Option Jvm.ClassFile.FieldType)).before args0 about1 = true := code_word (m := ⟨9, 1⟩) (meth := k9m1) (c := k9c1) (by decide +kernel) rfl rfl rfl (by decide +kernel)
set_option maxRecDepth 65536 in
theorem w_c2 : (Jvm.Cond.code ({ cls := "java/lang/String", name := "<init>", desc := "([CIILjava/lang/Void;)V" } : Jvm.MethodName) jdk_42_method_149_code (6 : Nat) (Option.none : Option Jvm.ClassFile.FieldType)).before args0 about1 = true := code_word (m := ⟨9, 3⟩) (meth := k9m3) (c := k9c3) (by decide +kernel) rfl rfl rfl (by decide +kernel)
set_option maxRecDepth 65536 in
theorem w_c3 : (Jvm.Cond.code ({ cls := "java/lang/Object", name := "<init>", desc := "()V" } : Jvm.MethodName) object_method_1_code (1 : Nat) (Option.none : Option Jvm.ClassFile.FieldType)).before args0 about1 = true := code_word (m := ⟨0, 0⟩) (meth := k0m0) (c := k0c0) (by decide +kernel) rfl rfl rfl (by decide +kernel)
set_option maxRecDepth 65536 in
theorem w_c4 : (Jvm.Cond.code ({ cls := "java/lang/StringUTF16", name := "compress", desc := "([CII)[B" } : Jvm.MethodName) jdk_52_method_16_code (6 : Nat) (Option.some (Jvm.ClassFile.FieldType.array Jvm.ClassFile.FieldType.byte))).before args0 about1 = true := code_word (m := ⟨10, 2⟩) (meth := k10m2) (c := k10c2) (by decide +kernel) rfl rfl rfl (by decide +kernel)
set_option maxRecDepth 65536 in
theorem w_c5 : (Jvm.Cond.code ({ cls := "java/lang/StringUTF16", name := "compress", desc := "([CI[BII)I" } : Jvm.MethodName) jdk_52_method_21_code (7 : Nat) (Option.some Jvm.ClassFile.FieldType.int)).before args0 about1 = true := code_word (m := ⟨10, 3⟩) (meth := k10m3) (c := k10c3) (by decide +kernel) rfl rfl rfl (by decide +kernel)
set_option maxRecDepth 65536 in
theorem w_c6 : (Jvm.Cond.code ({ cls := "java/lang/StringUTF16", name := "coderFromArrayLen", desc := "([BI)B" } : Jvm.MethodName) jdk_52_method_15_code (2 : Nat) (Option.some Jvm.ClassFile.FieldType.byte)).before args0 about1 = true := code_word (m := ⟨10, 1⟩) (meth := k10m1) (c := k10c1) (by decide +kernel) rfl rfl rfl (by decide +kernel)
set_option maxRecDepth 65536 in
theorem w_c7 : (Jvm.Cond.code ({ cls := "com/example/nevermind/nevermind/graphs/NodeType", name := "fromWireName", desc := "(Ljava/lang/String;)Lcom/example/nevermind/nevermind/graphs/NodeType;" } : Jvm.MethodName) prog_9_method_5_code (5 : Nat) (Option.some (Jvm.ClassFile.FieldType.object "com/example/nevermind/nevermind/graphs/NodeType"))).before args0 about1 = true := code_word (m := ⟨6, 1⟩) (meth := k6m1) (c := k6c1) (by decide +kernel) rfl rfl rfl (by decide +kernel)
set_option maxRecDepth 65536 in
theorem w_c8 : (Jvm.Cond.code ({ cls := "com/example/nevermind/nevermind/graphs/NodeType", name := "values", desc := "()[Lcom/example/nevermind/nevermind/graphs/NodeType;" } : Jvm.MethodName) prog_9_method_1_code (0 : Nat) (Option.some (Jvm.ClassFile.FieldType.array (Jvm.ClassFile.FieldType.object "com/example/nevermind/nevermind/graphs/NodeType")))).before args0 about1 = true := code_word (m := ⟨6, 0⟩) (meth := k6m0) (c := k6c0) (by decide +kernel) rfl rfl rfl (by decide +kernel)
set_option maxRecDepth 65536 in
theorem w_c9 : (Jvm.Cond.code ({ cls := "java/lang/String", name := "equals", desc := "(Ljava/lang/Object;)Z" } : Jvm.MethodName) jdk_42_method_66_code (3 : Nat) (Option.some Jvm.ClassFile.FieldType.boolean)).before args0 about1 = true := code_word (m := ⟨9, 2⟩) (meth := k9m2) (c := k9c2) (by decide +kernel) rfl rfl rfl (by decide +kernel)
set_option maxRecDepth 65536 in
theorem w_c10 : (Jvm.Cond.code ({ cls := "java/lang/StringLatin1", name := "equals", desc := "([B[B)Z" } : Jvm.MethodName) jdk_43_method_13_code (3 : Nat) (Option.some Jvm.ClassFile.FieldType.boolean)).before args0 about1 = true := code_word (m := ⟨12, 1⟩) (meth := k12m1) (c := k12c1) (by decide +kernel) rfl rfl rfl (by decide +kernel)
def codes1 : List Jvm.Cond := [Jvm.Cond.code x code maxLocals ret, Jvm.Cond.code ({ cls := "java/lang/String", name := "<init>", desc := "([C)V" } : Jvm.MethodName) jdk_42_method_3_code (2 : Nat) (Option.none : Option Jvm.ClassFile.FieldType), Jvm.Cond.code ({ cls := "java/lang/String", name := "<init>", desc := "([CIILjava/lang/Void;)V" } : Jvm.MethodName) jdk_42_method_149_code (6 : Nat) (Option.none : Option Jvm.ClassFile.FieldType), Jvm.Cond.code ({ cls := "java/lang/Object", name := "<init>", desc := "()V" } : Jvm.MethodName) object_method_1_code (1 : Nat) (Option.none : Option Jvm.ClassFile.FieldType), Jvm.Cond.code ({ cls := "java/lang/StringUTF16", name := "compress", desc := "([CII)[B" } : Jvm.MethodName) jdk_52_method_16_code (6 : Nat) (Option.some (Jvm.ClassFile.FieldType.array Jvm.ClassFile.FieldType.byte)), Jvm.Cond.code ({ cls := "java/lang/StringUTF16", name := "compress", desc := "([CI[BII)I" } : Jvm.MethodName) jdk_52_method_21_code (7 : Nat) (Option.some Jvm.ClassFile.FieldType.int), Jvm.Cond.code ({ cls := "java/lang/StringUTF16", name := "coderFromArrayLen", desc := "([BI)B" } : Jvm.MethodName) jdk_52_method_15_code (2 : Nat) (Option.some Jvm.ClassFile.FieldType.byte), Jvm.Cond.code ({ cls := "com/example/nevermind/nevermind/graphs/NodeType", name := "fromWireName", desc := "(Ljava/lang/String;)Lcom/example/nevermind/nevermind/graphs/NodeType;" } : Jvm.MethodName) prog_9_method_5_code (5 : Nat) (Option.some (Jvm.ClassFile.FieldType.object "com/example/nevermind/nevermind/graphs/NodeType")), Jvm.Cond.code ({ cls := "com/example/nevermind/nevermind/graphs/NodeType", name := "values", desc := "()[Lcom/example/nevermind/nevermind/graphs/NodeType;" } : Jvm.MethodName) prog_9_method_1_code (0 : Nat) (Option.some (Jvm.ClassFile.FieldType.array (Jvm.ClassFile.FieldType.object "com/example/nevermind/nevermind/graphs/NodeType"))), Jvm.Cond.code ({ cls := "java/lang/String", name := "equals", desc := "(Ljava/lang/Object;)Z" } : Jvm.MethodName) jdk_42_method_66_code (3 : Nat) (Option.some Jvm.ClassFile.FieldType.boolean), Jvm.Cond.code ({ cls := "java/lang/StringLatin1", name := "equals", desc := "([B[B)Z" } : Jvm.MethodName) jdk_43_method_13_code (3 : Nat) (Option.some Jvm.ClassFile.FieldType.boolean)]
set_option maxRecDepth 65536 in
theorem codes_eq : words1.filter isCode = codes1 := rfl
theorem w_codes : ∀ c ∈ words1.filter isCode, c.before args0 about1 = true := by
  rw [codes_eq]
  intro c hc
  simp only [codes1, List.mem_cons, List.not_mem_nil, or_false] at hc
  rcases hc with rfl | rfl | rfl | rfl | rfl | rfl | rfl | rfl | rfl | rfl | rfl
  · exact w_c0
  · exact w_c1
  · exact w_c2
  · exact w_c3
  · exact w_c4
  · exact w_c5
  · exact w_c6
  · exact w_c7
  · exact w_c8
  · exact w_c9
  · exact w_c10
set_option maxRecDepth 65536 in
theorem w_t1 : (words1.take 24).all (fun c => isCode c || c.before args0 about1) = true := by decide +kernel
set_option maxRecDepth 65536 in
theorem w_t2 : ((words1.drop 24).take 24).all (fun c => isCode c || c.before args0 about1) = true := by decide +kernel
set_option maxRecDepth 65536 in
theorem w_t3 : (((words1.drop 24).drop 24).take 24).all (fun c => isCode c || c.before args0 about1) = true := by decide +kernel
set_option maxRecDepth 65536 in
theorem w_t4 : (((words1.drop 24).drop 24).drop 24).all (fun c => isCode c || c.before args0 about1) = true := by decide +kernel
theorem w_tables : (allAtoms (Jvm.Cond.code x code maxLocals ret :: tables_1)).before args0 about1 = true := by
  rw [allAtoms_all]
  show words1.all (fun c => c.before args0 about1) = true
  refine all_split ?_ w_codes
  rw [← List.take_append_drop 24 words1, List.all_append, w_t1, ← List.take_append_drop 24 (words1.drop 24), List.all_append, w_t2, ← List.take_append_drop 24 ((words1.drop 24).drop 24), List.all_append, w_t3, w_t4]
  rfl
set_option maxRecDepth 65536 in
theorem w_rest : rest_1_c.before args0 about1 = true := by decide +kernel
set_option maxRecDepth 65536 in
theorem w_case : (Jvm.Cond.and given_1 narrow_1).before args0 about1 = true := by decide +kernel
theorem w_applies : (headSpec (Jvm.Cond.code x code maxLocals ret :: tables_1) room_1).applies x e0.platform about1 = true :=
  (Spec.applies_iff w_frames).mpr ⟨w_running, w_runnable, w_alone, w_named, w_hears, w_ripe, w_room, w_tables⟩
theorem atStart : AtStart classFile x code maxLocals ret World_1 tables_1 room_1 Calls_1 rest_1 Pre_1 launch0 p0 e0 about1 theMethod args0 below0 :=
  ⟨lists_1, trivial, launch0.admits_env _ _ _, launch0.least_env, fairChoices_fair.cas, fairChoices_fair.clock, w_frames, w_args, w_heap, w_applies, trivial, w_rest, w_case⟩
end start1
theorem witness_1 : WitnessClaimed_1 := ⟨start1.p0, start1.e0, start1.about1, start1.theMethod, start1.args0, start1.below0, start1.atStart⟩
end Jvm.Pilot.@@N@@

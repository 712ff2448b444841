import JvmDerived
import JvmDerived.Pilot.@@N@@Statement
import JvmDerived.Pilot.@@N@@Code
set_option linter.unusedVariables false
set_option linter.unusedSimpArgs false
@@BLOCK:NumsL.lean.txt@@
namespace Jvm.RoadKit
open Sem ClassFile Op Lib Jvm.Stand Jvm.Free Jvm.LawKit
section New
variable {p : Program} {l : Launch} {e : Env} {R : Room} {s : State} {m : MethodId} {args : Array Value} {below : List Frame} {meth : Method} {c : Code} {T : State} {locs : List Loc} {cells slots : Nat}
theorem retI (X : Stand p l e R s m args below meth c T locs cells slots) (hx : p.tables.exec = Jvm.exec) {pc : Nat} {Ls : Array Slot} {z : Int32} {rest : List Value} (hret : meth.sig.returnType = some .int) (hd : decode c.code pc = .ok (.ireturn, 1)) {fs : List Frame}
    (hl : ∀ (f : JFrame) (acts : List Action), f.method = m → f.locked = none → f.entered = [] → (doReturn e (T.setTop f) acts (some (.int z))).1 = T.setFrames fs) : Steps p.tables e below (T.setTop (mkF m pc Ls (.int z :: rest))) (T.setFrames fs) := by
  have hm' : T.vm.method? m = some meth := X.method'
  have hn : narrow .int (.int z) = .int z := rfl
  show Steps p.tables e below (T.setTop { method := m, pc := pc, locals := Ls, stack := _ :: rest, locked := none }) _
  jvm_step X.here [X.here.top, hx, hd, hm', hret, hn]
  first | (intro acts; rw [hl _ acts rfl rfl rfl]) | rw [hl _ _ rfl rfl rfl]
  exact Steps.refl _
end New
end Jvm.RoadKit
/- laws to paste: Road.backV (cut by pick.py; bodies as the Statement names them) -/
namespace Jvm.Pilot.@@N@@
namespace StrChars
open Jvm Sem ClassFile Op Lib Jvm.Stand Jvm.Free.XT Jvm.Free.ALB Jvm.Free.JM Jvm.Free
open Jvm.Lib.Cold (StaticIs)
/-- a char array whose places are chars -/
def Ch (a : Addr) (A : Cell) (U : State) : Prop := Arr .char a A U ∧ Typed .char A
theorem Ch.mv {a : Addr} {A : Cell} {U U' : State} (h : Ch a A U) (hal : U.vm.Alike U'.vm) (hh : U'.heap = U.heap) : Ch a A U' := ⟨h.1.mv hal hh, h.2⟩
theorem Ch.keep {a : Addr} {A : Cell} {U U' : State} (h : Ch a A U) (hal : U.vm.Alike U'.vm) (hk : U'.heap[a]? = some A) : Ch a A U' := ⟨h.1.keep hal hk, h.2⟩
/-- what place i of a char[]'s cell holds -/
def cv (A : Cell) (i : Nat) : Int32 := match A.slots[i]? with | some (.int x) => x | _ => 0
theorem Ch.get {a : Addr} {A : Cell} {U : State} (h : Ch a A U) {i : Nat} (hi : i < A.slots.size) : A.slots[i]? = some (.int (cv A i)) := by
  have e := Array.getElem?_eq_getElem hi
  have f := h.2 i _ e
  unfold cv; rw [e]
  generalize A.slots[i] = v at f
  cases v <;> simp [fits] at f ⊢
/-- the byte that i2b leaves of a char -/
def lo8 (x : Int32) : Int32 := x.toInt8.toInt32
theorem fits_lo8 (y : Int32) : fits .byte (.int (lo8 y)) = true := by
  have h1 := y.toInt8.le_toInt
  have h2 := y.toInt8.toInt_lt
  simp only [lo8, fits, Bool.and_eq_true, decide_eq_true_eq, Int32.le_iff_toInt_le, Int8.toInt_toInt32, show (-128 : Int32).toInt = -128 from by decide, show (127 : Int32).toInt = 127 from by decide]
  omega
/-- A' is A but that each place j of lo .. hi - 1 holds f j -/
def Laid (A A' : Cell) (lo hi : Nat) (f : Nat → Value) : Prop := A'.cls = A.cls ∧ A'.vm = A.vm ∧ A'.slots.size = A.slots.size ∧ ∀ i, A'.slots[i]? = if lo ≤ i ∧ i < hi then some (f i) else A.slots[i]?
theorem Laid.zero (A : Cell) (lo : Nat) (f : Nat → Value) : Laid A A lo (lo + 0) f := ⟨rfl, rfl, rfl, fun i => by rw [if_neg (by omega)]⟩
theorem Laid.step {A Ak : Cell} {lo k : Nat} {f : Nat → Value} {v : Value} (h : Laid A Ak lo k f) (hlo : lo ≤ k) (hk : k < Ak.slots.size) (hv : v = f k) : Laid A (Ak.setSlot k v) lo (k + 1) f := by
  refine ⟨h.1, h.2.1, by simpa [Cell.setSlot] using h.2.2.1, fun i => ?_⟩
  by_cases e : k = i
  · subst e; rw [Cell.slots_setSlot_self v hk, if_pos (by omega), hv]
  · rw [Cell.slots_setSlot_ne v e, h.2.2.2 i]
    by_cases q : lo ≤ i ∧ i < k
    · rw [if_pos q, if_pos (by omega)]
    · rw [if_neg q, if_neg (by omega)]
def U16 : String := "java/lang/StringUTF16"
namespace Cmp5
def yN : MethodName := ⟨"java/lang/StringUTF16", "compress", "([CI[BII)I"⟩
abbrev yB : ByteArray := jdk_52_method_21_code
theorem d0 : decode yB 0 = .ok (.iconst 0, 1) := by decide +kernel
theorem d1 : decode yB 1 = .ok (.istore 5, 2) := by decide +kernel
theorem d3 : decode yB 3 = .ok (.iload 5, 2) := by decide +kernel
theorem d5 : decode yB 5 = .ok (.iload 4, 2) := by decide +kernel
theorem d7 : decode yB 7 = .ok (.if_icmp (.ge) 37, 3) := by decide +kernel
theorem d10 : decode yB 10 = .ok (.aload_n 0, 1) := by decide +kernel
theorem d11 : decode yB 11 = .ok (.iload_n 1, 1) := by decide +kernel
theorem d12 : decode yB 12 = .ok (.caload, 1) := by decide +kernel
theorem d13 : decode yB 13 = .ok (.istore 6, 2) := by decide +kernel
theorem d15 : decode yB 15 = .ok (.iload 6, 2) := by decide +kernel
theorem d17 : decode yB 17 = .ok (.sipush 255, 3) := by decide +kernel
theorem d20 : decode yB 20 = .ok (.if_icmp (.le) 6, 3) := by decide +kernel
theorem d26 : decode yB 26 = .ok (.aload_n 2, 1) := by decide +kernel
theorem d27 : decode yB 27 = .ok (.iload_n 3, 1) := by decide +kernel
theorem d28 : decode yB 28 = .ok (.iload 6, 2) := by decide +kernel
theorem d30 : decode yB 30 = .ok (.i2b, 1) := by decide +kernel
theorem d31 : decode yB 31 = .ok (.bastore, 1) := by decide +kernel
theorem d32 : decode yB 32 = .ok (.iinc 1 1, 3) := by decide +kernel
theorem d35 : decode yB 35 = .ok (.iinc 3 1, 3) := by decide +kernel
theorem d38 : decode yB 38 = .ok (.iinc 5 1, 3) := by decide +kernel
theorem d41 : decode yB 41 = .ok (.goto (-38), 3) := by decide +kernel
theorem d44 : decode yB 44 = .ok (.iload 4, 2) := by decide +kernel
theorem d46 : decode yB 46 = .ok (.ireturn, 1) := by decide +kernel
def site : List Cond := []
def tab : Cond := tabOf yN yB 7 (some .int) site
def P (b : Addr) (A : Cell) (d : Addr) (B : Cell) (o q len : Nat) (args : Array Value) (s : State) : Prop := args = #[.ref b, .int (Int32.ofNat o), .ref d, .int (Int32.ofNat q), .int (Int32.ofNat len)] ∧ Ch b A s ∧ Arr .byte d B s ∧ b ≠ d ∧ o + len ≤ A.slots.size ∧ q + len ≤ B.slots.size ∧ ∀ i, i < len → ¬ 255 < cv A (o + i)
def E (b : Addr) (A : Cell) (d : Addr) (B : Cell) (o q len : Nat) (r : Option Value) (s u : State) : Prop := r = some (.int (Int32.ofNat len)) ∧ ∃ B', Put d B' s u ∧ Laid B B' q (q + len) (fun j => Value.int (lo8 (cv A (o + (j - q)))))
/-- no char of the range above 255: len; the places written hold each char's low byte -/
theorem law (l : Launch) (b : Addr) (A : Cell) (d : Addr) (B : Cell) (o q len : Nat) : Law l yN 5 5 0 0 yB 7 (some .int) site (P b A d B o q len) (E b A d B o q len) (copyLocs d q len) 0 0 := by
  refine Law.of_walk (plainFor_of_name (by decide +kernel)) (by decide +kernel) (by decide +kernel) (by decide) (fun _ _ h => by rw [h.1]; rfl) (fun _ U U' hal hh h => ⟨h.1, h.2.1.mv hal hh, h.2.2.1.mv hal hh, h.2.2.2⟩) (fun r U U' V V' h1 hal h2 h => ⟨h.1, h.2.elim fun B' q => ⟨B', q.1.mv h1 h2, q.2⟩⟩) ?_
  intro p e s m args below meth c s₁ X0 hexec hbytes hml hret hlk hnm hown hh0 W hP
  obtain ⟨rfl, hA, hB, hne, l1, l2, hp⟩ := hP
  have c1 : Steps p.tables e below (s₁.setTop (entryFrame m #[.ref b, .int (Int32.ofNat o), .ref d, .int (Int32.ofNat q), .int (Int32.ofNat len)] 7)) (s₁.setTop (mkF m 0 #[.val (.ref b), .val (.int (Int32.ofNat o)), .val (.ref d), .val (.int (Int32.ofNat q)), .val (.int (Int32.ofNat len)), .unset, .unset] [])) := entry rfl
  have hA0 := hA.1.mv X0.warmed.alike hh0
  have hB0 := hB.mv X0.warmed.alike hh0
  have a31 := hA.1.2.2.2
  have c2 : Steps p.tables e below (s₁.setTop (entryFrame m #[.ref b, .int (Int32.ofNat o), .ref d, .int (Int32.ofNat q), .int (Int32.ofNat len)] 7)) (s₁.setTop (mkF m 3 #[.val (.ref b), .val (.int (Int32.ofNat o)), .val (.ref d), .val (.int (Int32.ofNat q)), .val (.int (Int32.ofNat len)), .val (.int 0), .unset] [])) := c1.trans (by
    refine iconstV X0.here hexec rfl 0 (hb hbytes d0) (by decide) ?_
    refine XS.istore X0.here hexec rfl (hb hbytes d1) rfl rfl ?_
    exact Steps.refl _)
  have loop : ∀ (r i : Nat), i + r = len → ∀ (z : Slot), (z = .unset ∨ ∃ w, z = .val w ∧ w.category = 1) → ∀ (Tl : State) (Bk : Cell), Stand p l e { frames := 0, locals := 0, cells := 0, slots := 0 } s m #[.ref b, .int (Int32.ofNat o), .ref d, .int (Int32.ofNat q), .int (Int32.ofNat len)] below meth c Tl ([] ++ copyLocs d q i) 0 0 → Put d Bk s₁ Tl → Laid B Bk q (q + i) (fun j => Value.int (lo8 (cv A (o + (j - q))))) →
      Steps p.tables e below (s₁.setTop (entryFrame m #[.ref b, .int (Int32.ofNat o), .ref d, .int (Int32.ofNat q), .int (Int32.ofNat len)] 7)) (Tl.setTop (mkF m 3 #[.val (.ref b), .val (.int (Int32.ofNat (o + i))), .val (.ref d), .val (.int (Int32.ofNat (q + i))), .val (.int (Int32.ofNat len)), .val (.int (Int32.ofNat i)), z] [])) → ∃ (T' : State) (B' : Cell) (z' : Slot), Stand p l e { frames := 0, locals := 0, cells := 0, slots := 0 } s m #[.ref b, .int (Int32.ofNat o), .ref d, .int (Int32.ofNat q), .int (Int32.ofNat len)] below meth c T' ([] ++ copyLocs d q len) 0 0 ∧ Put d B' s₁ T' ∧ Laid B B' q (q + len) (fun j => Value.int (lo8 (cv A (o + (j - q))))) ∧
      Steps p.tables e below (s₁.setTop (entryFrame m #[.ref b, .int (Int32.ofNat o), .ref d, .int (Int32.ofNat q), .int (Int32.ofNat len)] 7)) (T'.setTop (mkF m 3 #[.val (.ref b), .val (.int (Int32.ofNat (o + len))), .val (.ref d), .val (.int (Int32.ofNat (q + len))), .val (.int (Int32.ofNat len)), .val (.int (Int32.ofNat len)), z'] [])) := by
    intro r
    induction r with
    | zero =>
      intro i hi z hz Tl Bk Xl pl fl cl
      have hil : i = len := by omega
      rw [hil] at Xl fl cl
      exact ⟨Tl, Bk, z, Xl, pl, fl, cl⟩
    | succ r ih =>
      intro i hi z hz Tl Bk Xl pl fl cl
      have all := X0.warmed.alike.symm.trans Xl.warmed.alike
      have hAl := hA0.keep all (pl.other hne hA0.1)
      have hBk := hB0.like all pl.1 fl.1 fl.2.1 fl.2.2.1
      have hlt : q + i < Bk.slots.size := by rw [fl.2.2.1]; omega
      have c3 : Steps p.tables e below (s₁.setTop (entryFrame m #[.ref b, .int (Int32.ofNat o), .ref d, .int (Int32.ofNat q), .int (Int32.ofNat len)] 7)) (Tl.setTop (mkF m 12 #[.val (.ref b), .val (.int (Int32.ofNat (o + i))), .val (.ref d), .val (.int (Int32.ofNat (q + i))), .val (.int (Int32.ofNat len)), .val (.int (Int32.ofNat i)), z] [.int (Int32.ofNat (o + i)), .ref b])) := cl.trans (by
        refine XS.iload Xl.here hexec rfl (hb hbytes d3) rfl ?_
        refine XS.iload Xl.here hexec rfl (hb hbytes d5) rfl ?_
        refine XS.icmpNo Xl.here hexec rfl (hb hbytes d7) rfl (ii_ge_f (lt32 (by omega) (by omega))) ?_
        refine XS.aloadN Xl.here hexec rfl (hb hbytes d10) rfl rfl ?_
        refine XS.iloadN Xl.here hexec rfl (hb hbytes d11) rfl ?_
        exact Steps.refl _)
      have c4 : Steps p.tables e below (s₁.setTop (entryFrame m #[.ref b, .int (Int32.ofNat o), .ref d, .int (Int32.ofNat q), .int (Int32.ofNat len)] 7)) (Tl.setTop (mkF m 13 #[.val (.ref b), .val (.int (Int32.ofNat (o + i))), .val (.ref d), .val (.int (Int32.ofNat (q + i))), .val (.int (Int32.ofNat len)), .val (.int (Int32.ofNat i)), z] [.int (cv A (o + i))])) := c3.trans (by
        refine Xl.aget hexec hAl rfl (hA.get (i := o + i) (by omega)) rfl rfl (hb hbytes d12) ?_
        exact Steps.refl _)
      have c5 : Steps p.tables e below (s₁.setTop (entryFrame m #[.ref b, .int (Int32.ofNat o), .ref d, .int (Int32.ofNat q), .int (Int32.ofNat len)] 7)) (Tl.setTop (mkF m 15 #[.val (.ref b), .val (.int (Int32.ofNat (o + i))), .val (.ref d), .val (.int (Int32.ofNat (q + i))), .val (.int (Int32.ofNat len)), .val (.int (Int32.ofNat i)), .val (.int (cv A (o + i)))] [])) := c4.trans (by
        refine XS.istoreS Xl.here hexec rfl (hb hbytes d13) rfl rfl hz ?_
        exact Steps.refl _)
      have c6 : Steps p.tables e below (s₁.setTop (entryFrame m #[.ref b, .int (Int32.ofNat o), .ref d, .int (Int32.ofNat q), .int (Int32.ofNat len)] 7)) (Tl.setTop (mkF m 31 #[.val (.ref b), .val (.int (Int32.ofNat (o + i))), .val (.ref d), .val (.int (Int32.ofNat (q + i))), .val (.int (Int32.ofNat len)), .val (.int (Int32.ofNat i)), .val (.int (cv A (o + i)))] [.int (lo8 (cv A (o + i))), .int (Int32.ofNat (q + i)), .ref d])) := c5.trans (by
        refine XS.iload Xl.here hexec rfl (hb hbytes d15) rfl ?_
        refine sipushV Xl.here hexec rfl 255 (hb hbytes d17) (by decide) ?_
        refine XS.icmpYes Xl.here hexec rfl (pc0 := 20) rfl (hb hbytes d20) rfl (ii_le_t (hp i (by omega))) (by decide) rfl ?_
        refine XS.aloadN Xl.here hexec rfl (hb hbytes d26) rfl rfl ?_
        refine XS.iloadN Xl.here hexec rfl (hb hbytes d27) rfl ?_
        refine XS.iload Xl.here hexec rfl (hb hbytes d28) rfl ?_
        refine i2b Xl.here hexec rfl (hb hbytes d30) rfl ?_
        exact Steps.refl _)
      obtain ⟨T7, X7, p7, st7⟩ := Xl.aput hexec hBk rfl hlt rfl (fits_lo8 (cv A (o + i))) (g := (mkF m 31 #[.val (.ref b), .val (.int (Int32.ofNat (o + i))), .val (.ref d), .val (.int (Int32.ofNat (q + i))), .val (.int (Int32.ofNat len)), .val (.int (Int32.ofNat i)), .val (.int (cv A (o + i)))] [.int (lo8 (cv A (o + i))), .int (Int32.ofNat (q + i)), .ref d])) rfl (rest := []) rfl (hb hbytes d31)
      have c8 : Steps p.tables e below (s₁.setTop (entryFrame m #[.ref b, .int (Int32.ofNat o), .ref d, .int (Int32.ofNat q), .int (Int32.ofNat len)] 7)) (T7.setTop (mkF m 32 #[.val (.ref b), .val (.int (Int32.ofNat (o + i))), .val (.ref d), .val (.int (Int32.ofNat (q + i))), .val (.int (Int32.ofNat len)), .val (.int (Int32.ofNat i)), .val (.int (cv A (o + i)))] [])) := c6.trans (st7 _ (Steps.refl _))
      have c9 : Steps p.tables e below (s₁.setTop (entryFrame m #[.ref b, .int (Int32.ofNat o), .ref d, .int (Int32.ofNat q), .int (Int32.ofNat len)] 7)) (T7.setTop (mkF m 3 #[.val (.ref b), .val (.int (Int32.ofNat (o + i) + 1)), .val (.ref d), .val (.int (Int32.ofNat (q + i) + 1)), .val (.int (Int32.ofNat len)), .val (.int (Int32.ofNat i + 1)), .val (.int (cv A (o + i)))] [])) := c8.trans (by
        refine iincV X7.here hexec rfl 1 (hb hbytes d32) (by decide) rfl rfl ?_
        refine iincV X7.here hexec rfl 1 (hb hbytes d35) (by decide) rfl rfl ?_
        refine iincV X7.here hexec rfl 1 (hb hbytes d38) (by decide) rfl rfl ?_
        refine XS.goto X7.here hexec rfl (pc0 := 41) rfl (hb hbytes d41) (by decide) rfl ?_
        exact Steps.refl _)
      have c10 : Steps p.tables e below (s₁.setTop (entryFrame m #[.ref b, .int (Int32.ofNat o), .ref d, .int (Int32.ofNat q), .int (Int32.ofNat len)] 7)) (T7.setTop (mkF m 3 #[.val (.ref b), .val (.int (Int32.ofNat (o + (i + 1)))), .val (.ref d), .val (.int (Int32.ofNat (q + (i + 1)))), .val (.int (Int32.ofNat len)), .val (.int (Int32.ofNat (i + 1))), .val (.int (cv A (o + i)))] [])) := by
        have := c9
        rw [succ32, succ32, succ32] at this
        exact this
      exact ih (i + 1) (by omega) _ (Or.inr ⟨_, rfl, rfl⟩) T7 _ (by rw [copyLocs_step, ← List.append_assoc]; exact X7) (pl.trans p7) (fl.step (by omega) hlt (by simp)) c10
  obtain ⟨T9, B9, z9, X9, p9, f9, g9⟩ := loop len 0 (by omega) .unset (Or.inl rfl) s₁ B (by simpa [copyLocs] using X0) ⟨hB0.1, fun _ _ => rfl, rfl⟩ (Laid.zero _ _ _) c2
  have c11 : Steps p.tables e below (s₁.setTop (entryFrame m #[.ref b, .int (Int32.ofNat o), .ref d, .int (Int32.ofNat q), .int (Int32.ofNat len)] 7)) (T9.setTop (mkF m 46 #[.val (.ref b), .val (.int (Int32.ofNat (o + len))), .val (.ref d), .val (.int (Int32.ofNat (q + len))), .val (.int (Int32.ofNat len)), .val (.int (Int32.ofNat len)), z9] [.int (Int32.ofNat len)])) := g9.trans (by
    refine XS.iload X9.here hexec rfl (hb hbytes d3) rfl ?_
    refine XS.iload X9.here hexec rfl (hb hbytes d5) rfl ?_
    refine XS.icmpYes X9.here hexec rfl (pc0 := 7) rfl (hb hbytes d7) rfl (ii_ge_t (nlt32 (by omega) (Nat.le_refl _))) (by decide) rfl ?_
    refine XS.iload X9.here hexec rfl (hb hbytes d44) rfl ?_
    exact Steps.refl _)
  exact ⟨T9, some (.int (Int32.ofNat len)), _, _, _, X9, by simp, rfl, rfl, (fun h => by cases h), ⟨rfl, B9, p9.from hh0, f9⟩, fun fs hl => c11.trans (X9.ireturnOut hexec hret rfl (Or.inl rfl) (hb hbytes d46) hl)⟩
end Cmp5
namespace Cmp3
def yN : MethodName := ⟨"java/lang/StringUTF16", "compress", "([CII)[B"⟩
abbrev yB : ByteArray := jdk_52_method_16_code
theorem d0 : decode yB 0 = .ok (.iload_n 2, 1) := by decide +kernel
theorem d1 : decode yB 1 = .ok (.newarray .byte, 2) := by decide +kernel
theorem d3 : decode yB 3 = .ok (.astore_n 3, 1) := by decide +kernel
theorem d4 : decode yB 4 = .ok (.aload_n 0, 1) := by decide +kernel
theorem d5 : decode yB 5 = .ok (.iload_n 1, 1) := by decide +kernel
theorem d6 : decode yB 6 = .ok (.aload_n 3, 1) := by decide +kernel
theorem d7 : decode yB 7 = .ok (.iconst 0, 1) := by decide +kernel
theorem d8 : decode yB 8 = .ok (.iload_n 2, 1) := by decide +kernel
theorem d9 : decode yB 9 = .ok (.invokestatic 115, 3) := by decide +kernel
theorem d12 : decode yB 12 = .ok (.istore 4, 2) := by decide +kernel
theorem d14 : decode yB 14 = .ok (.iload 4, 2) := by decide +kernel
theorem d16 : decode yB 16 = .ok (.iload_n 2, 1) := by decide +kernel
theorem d17 : decode yB 17 = .ok (.if_icmp (.eq) 40, 3) := by decide +kernel
theorem d57 : decode yB 57 = .ok (.aload_n 3, 1) := by decide +kernel
theorem d58 : decode yB 58 = .ok (.areturn, 1) := by decide +kernel
def site : List Cond := [.arrayClass .byte, Cmp5.tab] ++ staticW U16 115 Cmp5.yN
def tab : Cond := tabOf yN yB 6 (some (.array .byte)) site
def P (b : Addr) (A : Cell) (o len : Nat) (args : Array Value) (s : State) : Prop := args = #[.ref b, .int (Int32.ofNat o), .int (Int32.ofNat len)] ∧ Ch b A s ∧ o + len ≤ A.slots.size ∧ len ≤ 536870912 ∧ ∀ i, i < len → ¬ 255 < cv A (o + i)
def E (b : Addr) (A : Cell) (o len : Nat) (r : Option Value) (s u : State) : Prop := NewArr .byte "[B" len (fun j => .int (lo8 (cv A (o + j)))) r s u ∧ u.heap.size = s.heap.size + 1
/-- no char of the range above 255: a new byte[] of their low bytes -/
theorem law (l : Launch) (b : Addr) (A : Cell) (o len : Nat) : Law l yN 3 3 1 18 yB 6 (some (.array .byte)) site (P b A o len) (E b A o len) [] 1 len := by
  refine Law.of_walk (plainFor_of_name (by decide +kernel)) (by decide +kernel) (by decide +kernel) (by decide) (fun _ _ h => by rw [h.1]; rfl) (fun _ U U' hal hh h => ⟨h.1, h.2.1.mv hal hh, h.2.2⟩) (fun r U U' V V' h1 hal h2 h => ⟨NewArr.mv r U U' V V' h1 hal h2 h.1, by rw [h1, h2]; exact h.2⟩) ?_
  intro p e s m args below meth c s₁ X0 hexec hbytes hml hret hlk hnm hown hh0 W hP
  obtain ⟨rfl, hA, l1, l2, hp⟩ := hP
  have a31 := hA.1.2.2.2
  have c1 : Steps p.tables e below (s₁.setTop (entryFrame m #[.ref b, .int (Int32.ofNat o), .int (Int32.ofNat len)] 6)) (s₁.setTop (mkF m 0 #[.val (.ref b), .val (.int (Int32.ofNat o)), .val (.int (Int32.ofNat len)), .unset, .unset, .unset] [])) := entry rfl
  have c2 : Steps p.tables e below (s₁.setTop (entryFrame m #[.ref b, .int (Int32.ofNat o), .int (Int32.ofNat len)] 6)) (s₁.setTop (mkF m 1 #[.val (.ref b), .val (.int (Int32.ofNat o)), .val (.int (Int32.ofNat len)), .unset, .unset, .unset] [.int (Int32.ofNat len)])) := c1.trans (by
    refine XS.iloadN X0.here hexec rfl (hb hbytes d0) rfl ?_
    exact Steps.refl _)
  obtain ⟨T3, B3, X3, ba3, bs3, bv3, bh3, bf3, st3⟩ := X0.anew hexec (atype := .byte) (wk W (.arrayClass .byte)) rfl (by show len * 1 ≤ _; omega) (by omega) (g := (mkF m 1 #[.val (.ref b), .val (.int (Int32.ofNat o)), .val (.int (Int32.ofNat len)), .unset, .unset, .unset] [.int (Int32.ofNat len)])) rfl (hb hbytes d1) (rest := []) rfl (Nat.le_refl _) (by show 0 + len ≤ len; omega)
  rw [hh0] at ba3 st3
  have kp3 : XT.Kept s T3 := (XT.Kept.of_eq hh0).push bh3
  have hA3 := hA.keep X3.warmed.alike (kp3 _ _ hA.1.1)
  have hne : b ≠ s.heap.size := hA.1.ne
  have c4 : Steps p.tables e below (s₁.setTop (entryFrame m #[.ref b, .int (Int32.ofNat o), .int (Int32.ofNat len)] 6)) (T3.setTop (mkF m 3 #[.val (.ref b), .val (.int (Int32.ofNat o)), .val (.int (Int32.ofNat len)), .unset, .unset, .unset] [.ref s.heap.size])) := c2.trans (st3 _ (Steps.refl _))
  have c5 : Steps p.tables e below (s₁.setTop (entryFrame m #[.ref b, .int (Int32.ofNat o), .int (Int32.ofNat len)] 6)) (T3.setTop (mkF m 9 #[.val (.ref b), .val (.int (Int32.ofNat o)), .val (.int (Int32.ofNat len)), .val (.ref s.heap.size), .unset, .unset] [.int (Int32.ofNat len), .int 0, .ref s.heap.size, .int (Int32.ofNat o), .ref b])) := c4.trans (by
    refine XS.astoreN X3.here hexec rfl (hb hbytes d3) rfl rfl rfl ?_
    refine XS.aloadN X3.here hexec rfl (hb hbytes d4) rfl rfl ?_
    refine XS.iloadN X3.here hexec rfl (hb hbytes d5) rfl ?_
    refine XS.aloadN X3.here hexec rfl (hb hbytes d6) rfl rfl ?_
    refine iconstV X3.here hexec rfl 0 (hb hbytes d7) (by decide) ?_
    refine XS.iloadN X3.here hexec rfl (hb hbytes d8) rfl ?_
    exact Steps.refl _)
  obtain ⟨v6, T6, X6, E6, g6⟩ := X3.callS hexec (Cmp5.law l b A s.heap.size B3 o 0 len) hown (wks W (staticW U16 115 Cmp5.yN)) (wk W Cmp5.tab) (W := 0) (Nat.le_of_ble_eq_true rfl) (Nat.le_of_ble_eq_true rfl) (Nat.le_refl _) (by show 0 + len + 0 ≤ len; omega) (g := (mkF m 9 #[.val (.ref b), .val (.int (Int32.ofNat o)), .val (.int (Int32.ofNat len)), .val (.ref s.heap.size), .unset, .unset] [.int (Int32.ofNat len), .int (Int32.ofNat 0), .ref s.heap.size, .int (Int32.ofNat o), .ref b])) rfl (by rw [hml]; rfl) c5 (argsL := [.ref b, .int (Int32.ofNat o), .ref s.heap.size, .int (Int32.ofNat 0), .int (Int32.ofNat len)]) (rest := []) rfl rfl (by show 2 * 0 + 0 ≤ _; decide) (hb hbytes d9) (⟨rfl, hA3, ba3, hne, l1, by rw [bs3]; simp, hp⟩)
  obtain ⟨rfl, B6, p6, f6⟩ := E6
  have c7 : Steps p.tables e below (s₁.setTop (entryFrame m #[.ref b, .int (Int32.ofNat o), .int (Int32.ofNat len)] 6)) (T6.setTop (mkF m 12 #[.val (.ref b), .val (.int (Int32.ofNat o)), .val (.int (Int32.ofNat len)), .val (.ref s.heap.size), .unset, .unset] [.int (Int32.ofNat len)])) := g6
  have c8 : Steps p.tables e below (s₁.setTop (entryFrame m #[.ref b, .int (Int32.ofNat o), .int (Int32.ofNat len)] 6)) (T6.setTop (mkF m 58 #[.val (.ref b), .val (.int (Int32.ofNat o)), .val (.int (Int32.ofNat len)), .val (.ref s.heap.size), .val (.int (Int32.ofNat len)), .unset] [.ref s.heap.size])) := c7.trans (by
    refine XS.istore X6.here hexec rfl (hb hbytes d12) rfl rfl ?_
    refine XS.iload X6.here hexec rfl (hb hbytes d14) rfl ?_
    refine XS.iloadN X6.here hexec rfl (hb hbytes d16) rfl ?_
    refine XS.icmpYes X6.here hexec rfl (pc0 := 17) rfl (hb hbytes d17) rfl (ii_eq_t rfl) (by decide) rfl ?_
    refine XS.aloadN X6.here hexec rfl (hb hbytes d57) rfl rfl ?_
    exact Steps.refl _)
  have X8 := X6.wide (L' := []) (cells' := 1) (slots' := len) (fun x hx hlt => by
    simp only [List.nil_append, copyLocs, List.mem_map, List.mem_range] at hx
    obtain ⟨i, -, rfl⟩ := hx
    exact absurd hlt (Nat.lt_irrefl _)) (Nat.le_refl _) (by omega)
  exact ⟨T6, some (.ref s.heap.size), _, _, _, X8, rfl, rfl, rfl, (fun h => by cases h), ⟨⟨rfl, B6, ba3.like (X3.warmed.alike.symm.trans X6.warmed.alike) p6.1 f6.1 f6.2.1 f6.2.2.1, f6.2.1.trans bv3, by rw [X6.warmed.alike.findClass, f6.1]; exact bf3, by rw [f6.2.2.1, bs3]; simp, fun j hj => by rw [f6.2.2.2 j, if_pos (by omega)]; rfl, kp3.put p6 (Nat.le_refl _)⟩, by rw [p6.2.2, bh3, hh0]; simp⟩, fun fs hl => c8.trans (X8.areturnOut hexec rfl hret rfl (hb hbytes d58) hl)⟩
end Cmp3
namespace CodL
def yN : MethodName := ⟨"java/lang/StringUTF16", "coderFromArrayLen", "([BI)B"⟩
abbrev yB : ByteArray := jdk_52_method_15_code
theorem d0 : decode yB 0 = .ok (.iload_n 1, 1) := by decide +kernel
theorem d1 : decode yB 1 = .ok (.aload_n 0, 1) := by decide +kernel
theorem d2 : decode yB 2 = .ok (.arraylength, 1) := by decide +kernel
theorem d3 : decode yB 3 = .ok (.isub, 1) := by decide +kernel
theorem d4 : decode yB 4 = .ok (.bipush 31, 2) := by decide +kernel
theorem d6 : decode yB 6 = .ok (.iushr, 1) := by decide +kernel
theorem d7 : decode yB 7 = .ok (.i2b, 1) := by decide +kernel
theorem d8 : decode yB 8 = .ok (.ireturn, 1) := by decide +kernel
def site : List Cond := []
def tab : Cond := tabOf yN yB 2 (some .byte) site
def P (d : Addr) (B : Cell) (args : Array Value) (s : State) : Prop := args = #[.ref d, .int (Int32.ofNat B.slots.size)] ∧ Arr .byte d B s
def E (r : Option Value) (s u : State) : Prop := XT.PureE (some (.int 0)) r s u
/-- an array as long as the number of chars: LATIN1 -/
theorem law (l : Launch) (d : Addr) (B : Cell) : Law l yN 2 2 0 0 yB 2 (some .byte) site (P d B) E [] 0 0 := by
  refine Law.of_walk (plainFor_of_name (by decide +kernel)) (by decide +kernel) (by decide +kernel) (by decide) (fun _ _ h => by rw [h.1]; rfl) (fun _ U U' hal hh h => ⟨h.1, h.2.mv hal hh⟩) (fun r U U' V V' h1 hal h2 h => XT.PureE.mv r U U' V V' h1 hal h2 h) ?_
  intro p e s m args below meth c s₁ X0 hexec hbytes hml hret hlk hnm hown hh0 W hP
  obtain ⟨rfl, hB⟩ := hP
  have hB0 := hB.mv X0.warmed.alike hh0
  have c1 : Steps p.tables e below (s₁.setTop (entryFrame m #[.ref d, .int (Int32.ofNat B.slots.size)] 2)) (s₁.setTop (mkF m 0 #[.val (.ref d), .val (.int (Int32.ofNat B.slots.size))] [])) := entry rfl
  have c2 : Steps p.tables e below (s₁.setTop (entryFrame m #[.ref d, .int (Int32.ofNat B.slots.size)] 2)) (s₁.setTop (mkF m 2 #[.val (.ref d), .val (.int (Int32.ofNat B.slots.size))] [.ref d, .int (Int32.ofNat B.slots.size)])) := c1.trans (by
    refine XS.iloadN X0.here hexec rfl (hb hbytes d0) rfl ?_
    refine XS.aloadN X0.here hexec rfl (hb hbytes d1) rfl rfl ?_
    exact Steps.refl _)
  have c3 : Steps p.tables e below (s₁.setTop (entryFrame m #[.ref d, .int (Int32.ofNat B.slots.size)] 2)) (s₁.setTop (mkF m 8 #[.val (.ref d), .val (.int (Int32.ofNat B.slots.size))] [.int (lo8 (ushr (Int32.ofNat B.slots.size - Int32.ofNat B.slots.size) 31))])) := c2.trans (by
    refine X0.alen hexec hB0 rfl rfl (hb hbytes d2) ?_
    refine XS.isub X0.here hexec rfl (hb hbytes d3) rfl ?_
    refine bipushV X0.here hexec rfl 31 (hb hbytes d4) (by decide) ?_
    refine iushr X0.here hexec rfl (hb hbytes d6) rfl ?_
    refine i2b X0.here hexec rfl (hb hbytes d7) rfl ?_
    exact Steps.refl _)
  have e0 : lo8 (ushr (Int32.ofNat B.slots.size - Int32.ofNat B.slots.size) 31) = 0 := by rw [Int32.sub_self]; decide
  rw [e0] at c3
  exact ⟨s₁, some (.int 0), _, _, _, X0, rfl, rfl, rfl, (fun h => by cases h), ⟨rfl, hh0⟩, fun fs hl => c3.trans (X0.ireturnOut hexec hret rfl (Or.inr (Or.inr (Or.inl rfl))) (hb hbytes d8) hl)⟩
end CodL
/-- the String at a is Latin-1 over a new byte[] (the heap's one new cell): the low bytes of the len chars of A from o on; every cell but a is kept -/
def Got (a : Addr) (D : Cell) (fV fC : Field) (A : Cell) (o len : Nat) (r : Option Value) (s u : State) : Prop := r = none ∧ ∃ D' V : Cell, Blank "java/lang/String" a D' u ∧ Same D D' [fV.slot, fC.slot] ∧ D'.slots[fV.slot]? = some (.ref s.heap.size) ∧ D'.slots[fC.slot]? = some (.int 0) ∧ Arr .byte s.heap.size V u ∧ V.vm = .none ∧ u.vm.findClass "[B" = some V.cls ∧ V.slots.size = len ∧ (∀ j, j < len → V.slots[j]? = some (.int (lo8 (cv A (o + j))))) ∧ (∀ (y : Addr) (c : Cell), y ≠ a → s.heap[y]? = some c → u.heap[y]? = some c) ∧ u.heap.size = s.heap.size + 1
theorem Got.mv {a : Addr} {D A : Cell} {fV fC : Field} {o len : Nat} : ∀ r (U U' V V' : State), U'.heap = U.heap → V.vm.Alike V'.vm → V'.heap = V.heap → Got a D fV fC A o len r U V → Got a D fV fC A o len r U' V' :=
  fun r U U' V V' h1 hal h2 ⟨e0, D', X, a1, a2, a3, a4, a5, a6, a7, a8, a9, a10, a11⟩ => ⟨e0, D', X, a1.mv hal h2, a2, by rw [h1]; exact a3, a4, by rw [h1]; exact a5.mv hal h2, a6, by rw [hal.findClass]; exact a7, a8, a9, by rw [h1, h2]; exact a10, by rw [h1, h2]; exact a11⟩
namespace New4
def yN : MethodName := ⟨"java/lang/String", "<init>", "([CIILjava/lang/Void;)V"⟩
abbrev yB : ByteArray := jdk_42_method_149_code
theorem d0 : decode yB 0 = .ok (.aload_n 0, 1) := by decide +kernel
theorem d1 : decode yB 1 = .ok (.invokespecial 1, 3) := by decide +kernel
theorem d4 : decode yB 4 = .ok (.iload_n 3, 1) := by decide +kernel
theorem d5 : decode yB 5 = .ok (.ifCond (.ne) 22, 3) := by decide +kernel
theorem d27 : decode yB 27 = .ok (.getstatic 38, 3) := by decide +kernel
theorem d30 : decode yB 30 = .ok (.ifCond (.eq) 28, 3) := by decide +kernel
theorem d33 : decode yB 33 = .ok (.aload_n 1, 1) := by decide +kernel
theorem d34 : decode yB 34 = .ok (.iload_n 2, 1) := by decide +kernel
theorem d35 : decode yB 35 = .ok (.iload_n 3, 1) := by decide +kernel
theorem d36 : decode yB 36 = .ok (.invokestatic 177, 3) := by decide +kernel
theorem d39 : decode yB 39 = .ok (.astore 5, 2) := by decide +kernel
theorem d41 : decode yB 41 = .ok (.aload_n 0, 1) := by decide +kernel
theorem d42 : decode yB 42 = .ok (.aload 5, 2) := by decide +kernel
theorem d44 : decode yB 44 = .ok (.iload_n 3, 1) := by decide +kernel
theorem d45 : decode yB 45 = .ok (.invokestatic 47, 3) := by decide +kernel
theorem d48 : decode yB 48 = .ok (.putfield 15, 3) := by decide +kernel
theorem d51 : decode yB 51 = .ok (.aload_n 0, 1) := by decide +kernel
theorem d52 : decode yB 52 = .ok (.aload 5, 2) := by decide +kernel
theorem d54 : decode yB 54 = .ok (.putfield 9, 3) := by decide +kernel
theorem d57 : decode yB 57 = .ok (.return_, 1) := by decide +kernel
def site : List Cond := [.fieldLink "java/lang/String" 38 "java/lang/String" "COMPACT_STRINGS" "Z", Cmp3.tab, CodL.tab, .laysFinal "java/lang/String" "java/lang/String" "value" "[B", .fieldLink "java/lang/String" 9 "java/lang/String" "value" "[B", .laysFinal "java/lang/String" "java/lang/String" "coder" "B", .fieldLink "java/lang/String" 15 "java/lang/String" "coder" "B"] ++ objW "java/lang/String" 1 ++ staticW "java/lang/String" 177 Cmp3.yN ++ staticW "java/lang/String" 47 CodL.yN
def tab : Cond := tabOf yN yB 6 none site
def P (a : Addr) (D : Cell) (fV fC : Field) (b : Addr) (A : Cell) (z : Int32) (o len : Nat) (args : Array Value) (s : State) : Prop := args = #[.ref a, .ref b, .int (Int32.ofNat o), .int (Int32.ofNat len), .null] ∧ Blank "java/lang/String" a D s ∧ Found "java/lang/String" "value" "[B" fV s ∧ Found "java/lang/String" "coder" "B" fC s ∧ Ch b A s ∧ StaticIs s "java/lang/String" "COMPACT_STRINGS" "Z" (.int z) ∧ ¬ z = 0 ∧ 0 < len ∧ o + len ≤ A.slots.size ∧ len ≤ 536870912 ∧ ∀ i, i < len → ¬ 255 < cv A (o + i)
def E (a : Addr) (D : Cell) (fV fC : Field) (A : Cell) (o len : Nat) (r : Option Value) (s u : State) : Prop := Got a D fV fC A o len r s u
/-- len > 0, no char of the range above 255: a Latin-1 String of their low bytes -/
theorem law (l : Launch) (a : Addr) (D : Cell) (fV fC : Field) (b : Addr) (A : Cell) (z : Int32) (o len : Nat) : Law l yN 5 4 2 35 yB 6 none site (P a D fV fC b A z o len) (E a D fV fC A o len) [⟨a, fC.slot⟩, ⟨a, fV.slot⟩] 1 len := by
  refine Law.of_walk (plainFor_of_name (by decide +kernel)) (by decide +kernel) (by decide +kernel) (by decide) (fun _ _ h => by rw [h.1]; rfl) (fun _ U U' hal hh h => ⟨h.1, h.2.1.mv hal hh, h.2.2.1.al hal, h.2.2.2.1.al hal, h.2.2.2.2.1.mv hal hh, h.2.2.2.2.2.1.there hal hh, h.2.2.2.2.2.2⟩) (fun r U U' V V' h1 hal h2 h => Got.mv r U U' V V' h1 hal h2 h) ?_
  intro p e s m args below meth c s₁ X0 hexec hbytes hml hret hlk hnm hown hh0 W hP
  obtain ⟨rfl, hB, f1, f2, hA, s1, hz, l0, l1, l2, hp⟩ := hP
  have a31 := hA.1.2.2.2
  have c1 : Steps p.tables e below (s₁.setTop (entryFrame m #[.ref a, .ref b, .int (Int32.ofNat o), .int (Int32.ofNat len), .null] 6)) (s₁.setTop (mkF m 0 #[.val (.ref a), .val (.ref b), .val (.int (Int32.ofNat o)), .val (.int (Int32.ofNat len)), .val .null, .unset] [])) := entry rfl
  have c2 : Steps p.tables e below (s₁.setTop (entryFrame m #[.ref a, .ref b, .int (Int32.ofNat o), .int (Int32.ofNat len), .null] 6)) (s₁.setTop (mkF m 1 #[.val (.ref a), .val (.ref b), .val (.int (Int32.ofNat o)), .val (.int (Int32.ofNat len)), .val .null, .unset] [.ref a])) := c1.trans (by
    refine XS.aloadN X0.here hexec rfl (hb hbytes d0) rfl rfl ?_
    exact Steps.refl _)
  obtain ⟨T3, X3, q3, st3⟩ := X0.oinit hexec hown (wks W (objW "java/lang/String" 1)) (g := (mkF m 1 #[.val (.ref a), .val (.ref b), .val (.int (Int32.ofNat o)), .val (.int (Int32.ofNat len)), .val .null, .unset] [.ref a])) rfl (by rw [hml]; rfl) (rest := []) rfl (hb hbytes d1) (W := 0) (by show 2 * 0 + 0 ≤ _; decide) (Nat.le_of_ble_eq_true rfl) (Nat.le_of_ble_eq_true rfl)
  have hh3 := q3.trans hh0
  have c4 : Steps p.tables e below (s₁.setTop (entryFrame m #[.ref a, .ref b, .int (Int32.ofNat o), .int (Int32.ofNat len), .null] 6)) (T3.setTop (mkF m 27 #[.val (.ref a), .val (.ref b), .val (.int (Int32.ofNat o)), .val (.int (Int32.ofNat len)), .val .null, .unset] [])) := (c2.trans (st3 _ (Steps.refl _))).trans (by
    refine XS.iloadN X3.here hexec rfl (hb hbytes d4) rfl ?_
    refine XS.ifYes X3.here hexec rfl (pc0 := 5) rfl (hb hbytes d5) rfl (i0_ne_t (nz32 (by omega) l0)) (by decide) rfl ?_
    exact Steps.refl _)
  obtain ⟨T5, X5, q5, st5⟩ := X3.sget hexec hown (wk W (.fieldLink "java/lang/String" 38 "java/lang/String" "COMPACT_STRINGS" "Z")) s1 (fun _ _ h => by rw [hh3]; exact h) (g := (mkF m 27 #[.val (.ref a), .val (.ref b), .val (.int (Int32.ofNat o)), .val (.int (Int32.ofNat len)), .val .null, .unset] [])) rfl (hb hbytes d27)
  have hh5 := q5.trans hh3
  have c6 : Steps p.tables e below (s₁.setTop (entryFrame m #[.ref a, .ref b, .int (Int32.ofNat o), .int (Int32.ofNat len), .null] 6)) (T5.setTop (mkF m 30 #[.val (.ref a), .val (.ref b), .val (.int (Int32.ofNat o)), .val (.int (Int32.ofNat len)), .val .null, .unset] [.int z])) := c4.trans (st5 _ (Steps.refl _))
  have c7 : Steps p.tables e below (s₁.setTop (entryFrame m #[.ref a, .ref b, .int (Int32.ofNat o), .int (Int32.ofNat len), .null] 6)) (T5.setTop (mkF m 36 #[.val (.ref a), .val (.ref b), .val (.int (Int32.ofNat o)), .val (.int (Int32.ofNat len)), .val .null, .unset] [.int (Int32.ofNat len), .int (Int32.ofNat o), .ref b])) := c6.trans (by
    refine XS.ifNo X5.here hexec rfl (hb hbytes d30) rfl (i0_eq_f hz) ?_
    refine XS.aloadN X5.here hexec rfl (hb hbytes d33) rfl rfl ?_
    refine XS.iloadN X5.here hexec rfl (hb hbytes d34) rfl ?_
    refine XS.iloadN X5.here hexec rfl (hb hbytes d35) rfl ?_
    exact Steps.refl _)
  obtain ⟨v8, T8, X8, E8, g8⟩ := X5.callS hexec (Cmp3.law l b A o len) hown (wks W (staticW "java/lang/String" 177 Cmp3.yN)) (wk W Cmp3.tab) (W := 0) (Nat.le_of_ble_eq_true rfl) (Nat.le_of_ble_eq_true rfl) (Nat.le_refl _) (by show 0 + len ≤ len; omega) (g := (mkF m 36 #[.val (.ref a), .val (.ref b), .val (.int (Int32.ofNat o)), .val (.int (Int32.ofNat len)), .val .null, .unset] [.int (Int32.ofNat len), .int (Int32.ofNat o), .ref b])) rfl (by rw [hml]; rfl) c7 (argsL := [.ref b, .int (Int32.ofNat o), .int (Int32.ofNat len)]) (rest := []) rfl rfl (by show 2 * 0 + 0 ≤ _; decide) (hb hbytes d36) (⟨rfl, hA.mv X5.warmed.alike hh5, l1, l2, hp⟩)
  obtain ⟨e8, z8⟩ := E8
  obtain ⟨rfl, N, n1, n2, n3, n4, n5, n6⟩ := NewArr.mv _ T5 s _ _ hh5.symm (Vm.Alike.refl _) rfl e8
  rw [hh5] at z8
  have hB1 := hB.keep X8.warmed.alike (n6 _ _ hB.1)
  have hne : s.heap.size ≠ a := (Nat.ne_of_lt (Array.getElem?_eq_some_iff.mp hB.1).1).symm
  have c9 : Steps p.tables e below (s₁.setTop (entryFrame m #[.ref a, .ref b, .int (Int32.ofNat o), .int (Int32.ofNat len), .null] 6)) (T8.setTop (mkF m 39 #[.val (.ref a), .val (.ref b), .val (.int (Int32.ofNat o)), .val (.int (Int32.ofNat len)), .val .null, .unset] [.ref s.heap.size])) := g8
  have c10 : Steps p.tables e below (s₁.setTop (entryFrame m #[.ref a, .ref b, .int (Int32.ofNat o), .int (Int32.ofNat len), .null] 6)) (T8.setTop (mkF m 45 #[.val (.ref a), .val (.ref b), .val (.int (Int32.ofNat o)), .val (.int (Int32.ofNat len)), .val .null, .val (.ref s.heap.size)] [.int (Int32.ofNat N.slots.size), .ref s.heap.size, .ref a])) := by
    have hc : Steps p.tables e below (s₁.setTop (entryFrame m #[.ref a, .ref b, .int (Int32.ofNat o), .int (Int32.ofNat len), .null] 6)) (T8.setTop (mkF m 45 #[.val (.ref a), .val (.ref b), .val (.int (Int32.ofNat o)), .val (.int (Int32.ofNat len)), .val .null, .val (.ref s.heap.size)] [.int (Int32.ofNat len), .ref s.heap.size, .ref a])) := c9.trans (by
      refine XS.astore X8.here hexec rfl (hb hbytes d39) rfl rfl rfl ?_
      refine XS.aloadN X8.here hexec rfl (hb hbytes d41) rfl rfl ?_
      refine XS.aload X8.here hexec rfl (hb hbytes d42) rfl rfl ?_
      refine XS.iloadN X8.here hexec rfl (hb hbytes d44) rfl ?_
      exact Steps.refl _)
    rw [n4]; exact hc
  obtain ⟨v11, T11, X11, E11, g11⟩ := X8.callS hexec (CodL.law l s.heap.size N) hown (wks W (staticW "java/lang/String" 47 CodL.yN)) (wk W CodL.tab) (W := 1) (Nat.le_of_ble_eq_true rfl) (Nat.le_of_ble_eq_true rfl) (Nat.le_refl _) (by show 0 + len + 0 ≤ len; omega) (g := (mkF m 45 #[.val (.ref a), .val (.ref b), .val (.int (Int32.ofNat o)), .val (.int (Int32.ofNat len)), .val .null, .val (.ref s.heap.size)] [.int (Int32.ofNat N.slots.size), .ref s.heap.size, .ref a])) rfl (by rw [hml]; rfl) c10 (argsL := [.ref s.heap.size, .int (Int32.ofNat N.slots.size)]) (rest := [.ref a]) rfl rfl (by show 2 * 0 + (1 + 0) ≤ _; decide) (hb hbytes d45) (⟨rfl, n1⟩)
  obtain ⟨rfl, q11⟩ := E11
  have hB11 := hB1.mv (X8.warmed.alike.symm.trans X11.warmed.alike) q11
  have c12 : Steps p.tables e below (s₁.setTop (entryFrame m #[.ref a, .ref b, .int (Int32.ofNat o), .int (Int32.ofNat len), .null] 6)) (T11.setTop (mkF m 48 #[.val (.ref a), .val (.ref b), .val (.int (Int32.ofNat o)), .val (.int (Int32.ofNat len)), .val .null, .val (.ref s.heap.size)] [.int 0, .ref a])) := g11
  obtain ⟨T13, X13, p13, bl13, sl13, st13⟩ := X11.finit hexec hown (wk W (.fieldLink "java/lang/String" 15 "java/lang/String" "coder" "B")) (Or.inr ⟨_, (wk W (.laysFinal "java/lang/String" "java/lang/String" "coder" "B"))⟩) (Or.inl ⟨rfl, hnm⟩) f2 (Or.inl rfl) hB11 (t := .byte) (by decide +kernel) rfl (g := (mkF m 48 #[.val (.ref a), .val (.ref b), .val (.int (Int32.ofNat o)), .val (.int (Int32.ofNat len)), .val .null, .val (.ref s.heap.size)] [.int 0, .ref a])) rfl (rest := []) rfl (hb hbytes d48)
  have c14 : Steps p.tables e below (s₁.setTop (entryFrame m #[.ref a, .ref b, .int (Int32.ofNat o), .int (Int32.ofNat len), .null] 6)) (T13.setTop (mkF m 54 #[.val (.ref a), .val (.ref b), .val (.int (Int32.ofNat o)), .val (.int (Int32.ofNat len)), .val .null, .val (.ref s.heap.size)] [.ref s.heap.size, .ref a])) := (c12.trans (st13 _ (Steps.refl _))).trans (by
    refine XS.aloadN X13.here hexec rfl (hb hbytes d51) rfl rfl ?_
    refine XS.aload X13.here hexec rfl (hb hbytes d52) rfl rfl ?_
    exact Steps.refl _)
  obtain ⟨T15, X15, p15, bl15, sl15, st15⟩ := X13.finit hexec hown (wk W (.fieldLink "java/lang/String" 9 "java/lang/String" "value" "[B")) (Or.inr ⟨_, (wk W (.laysFinal "java/lang/String" "java/lang/String" "value" "[B"))⟩) (Or.inl ⟨rfl, hnm⟩) f1 (Or.inl rfl) bl13 (t := (.array .byte)) (by decide +kernel) rfl (g := (mkF m 54 #[.val (.ref a), .val (.ref b), .val (.int (Int32.ofNat o)), .val (.int (Int32.ofNat len)), .val .null, .val (.ref s.heap.size)] [.ref s.heap.size, .ref a])) rfl (rest := []) rfl (hb hbytes d54)
  have c16 : Steps p.tables e below (s₁.setTop (entryFrame m #[.ref a, .ref b, .int (Int32.ofNat o), .int (Int32.ofNat len), .null] 6)) (T15.setTop (mkF m 57 #[.val (.ref a), .val (.ref b), .val (.int (Int32.ofNat o)), .val (.int (Int32.ofNat len)), .val .null, .val (.ref s.heap.size)] [])) := c14.trans (st15 _ (Steps.refl _))
  have ap := apart (Or.inr ⟨_, (wk W (.laysFinal "java/lang/String" "java/lang/String" "value" "[B"))⟩) (Or.inr ⟨_, (wk W (.laysFinal "java/lang/String" "java/lang/String" "coder" "B"))⟩) f1 f2 (t₁ := .array .byte) (t₂ := .byte) (by decide +kernel) (by decide +kernel) (by decide)
  have al := X8.warmed.alike.symm.trans X15.warmed.alike
  have n7 : T11.heap[s.heap.size]? = some N := by rw [q11]; exact n1.1
  exact ⟨T15, none, _, _, _, X15, by simp, rfl, by omega, (fun _ => rfl), ⟨rfl, _, N, bl15, ((Same.refl D _).set _ (by simp)).set _ (by simp), sl15, (Cell.slots_setSlot_ne _ ap).trans sl13, n1.keep al (p15.other hne (p13.other hne n7)), n2, by rw [al.findClass]; exact n3, n4, n5, fun y c h1 h2 => p15.other h1 (p13.other h1 (by rw [q11]; exact n6 y c h2)), by rw [p15.2.2, p13.2.2, q11]; exact z8⟩, fun fs hl => c16.trans (X15.returnOut hexec hret (hb hbytes d57) hl)⟩
end New4
namespace New1
def yN : MethodName := ⟨"java/lang/String", "<init>", "([C)V"⟩
abbrev yB : ByteArray := jdk_42_method_3_code
theorem d0 : decode yB 0 = .ok (.aload_n 0, 1) := by decide +kernel
theorem d1 : decode yB 1 = .ok (.aload_n 1, 1) := by decide +kernel
theorem d2 : decode yB 2 = .ok (.iconst 0, 1) := by decide +kernel
theorem d3 : decode yB 3 = .ok (.aload_n 1, 1) := by decide +kernel
theorem d4 : decode yB 4 = .ok (.arraylength, 1) := by decide +kernel
theorem d5 : decode yB 5 = .ok (.aconst_null, 1) := by decide +kernel
theorem d6 : decode yB 6 = .ok (.invokespecial 27, 3) := by decide +kernel
theorem d9 : decode yB 9 = .ok (.return_, 1) := by decide +kernel
def site : List Cond := [New4.tab] ++ initW "java/lang/String" 27 New4.yN
def tab : Cond := tabOf yN yB 2 none site
def P (a : Addr) (D : Cell) (fV fC : Field) (b : Addr) (A : Cell) (z : Int32) (args : Array Value) (s : State) : Prop := args = #[.ref a, .ref b] ∧ Blank "java/lang/String" a D s ∧ Found "java/lang/String" "value" "[B" fV s ∧ Found "java/lang/String" "coder" "B" fC s ∧ Ch b A s ∧ StaticIs s "java/lang/String" "COMPACT_STRINGS" "Z" (.int z) ∧ ¬ z = 0 ∧ 0 < A.slots.size ∧ A.slots.size ≤ 536870912 ∧ ∀ i, i < A.slots.size → ¬ 255 < cv A i
def E (a : Addr) (D : Cell) (fV fC : Field) (A : Cell) (r : Option Value) (s u : State) : Prop := Got a D fV fC A 0 A.slots.size r s u
/-- new String(chars), not empty, no char above 255: a Latin-1 String of their low bytes -/
theorem law (l : Launch) (a : Addr) (D : Cell) (fV fC : Field) (b : Addr) (A : Cell) (z : Int32) : Law l yN 2 1 3 52 yB 2 none site (P a D fV fC b A z) (E a D fV fC A) [⟨a, fC.slot⟩, ⟨a, fV.slot⟩] 1 A.slots.size := by
  refine Law.of_walk (plainFor_of_name (by decide +kernel)) (by decide +kernel) (by decide +kernel) (by decide) (fun _ _ h => by rw [h.1]; rfl) (fun _ U U' hal hh h => ⟨h.1, h.2.1.mv hal hh, h.2.2.1.al hal, h.2.2.2.1.al hal, h.2.2.2.2.1.mv hal hh, h.2.2.2.2.2.1.there hal hh, h.2.2.2.2.2.2⟩) (fun r U U' V V' h1 hal h2 h => Got.mv r U U' V V' h1 hal h2 h) ?_
  intro p e s m args below meth c s₁ X0 hexec hbytes hml hret hlk hnm hown hh0 W hP
  obtain ⟨rfl, hB, f1, f2, hA, s1, hz, l0, l2, hp⟩ := hP
  have c1 : Steps p.tables e below (s₁.setTop (entryFrame m #[.ref a, .ref b] 2)) (s₁.setTop (mkF m 0 #[.val (.ref a), .val (.ref b)] [])) := entry rfl
  have c2 : Steps p.tables e below (s₁.setTop (entryFrame m #[.ref a, .ref b] 2)) (s₁.setTop (mkF m 6 #[.val (.ref a), .val (.ref b)] [.null, .int (Int32.ofNat A.slots.size), .int 0, .ref b, .ref a])) := c1.trans (by
    refine XS.aloadN X0.here hexec rfl (hb hbytes d0) rfl rfl ?_
    refine XS.aloadN X0.here hexec rfl (hb hbytes d1) rfl rfl ?_
    refine iconstV X0.here hexec rfl 0 (hb hbytes d2) (by decide) ?_
    refine XS.aloadN X0.here hexec rfl (hb hbytes d3) rfl rfl ?_
    refine X0.alen hexec (hA.1.mv X0.warmed.alike hh0) rfl rfl (hb hbytes d4) ?_
    refine XS.aconstNull X0.here hexec rfl (hb hbytes d5) ?_
    exact Steps.refl _)
  obtain ⟨v3, T3, X3, E3, g3⟩ := X0.callN hexec (New4.law l a D fV fC b A z 0 A.slots.size) rfl hown (wks W (initW "java/lang/String" 27 New4.yN)) (W New4.tab (by simp only [site, List.mem_cons, List.mem_append, true_or, or_true])) (W := 0) (Nat.le_of_ble_eq_true rfl) (Nat.le_of_ble_eq_true rfl) (Nat.le_refl _) (by show 0 + A.slots.size ≤ A.slots.size; omega) (g := (mkF m 6 #[.val (.ref a), .val (.ref b)] [.null, .int (Int32.ofNat A.slots.size), .int (Int32.ofNat 0), .ref b, .ref a])) rfl (by rw [hml]; rfl) c2 (argsL := [.ref b, .int (Int32.ofNat 0), .int (Int32.ofNat A.slots.size), .null]) (rest := []) rfl rfl (by show 2 * 0 + 0 ≤ _; decide) (hb hbytes d6) (⟨rfl, hB.mv X0.warmed.alike hh0, f1.al X0.warmed.alike, f2.al X0.warmed.alike, hA.mv X0.warmed.alike hh0, s1.there X0.warmed.alike hh0, hz, l0, by omega, l2, fun i hi => by rw [Nat.zero_add]; exact hp i hi⟩)
  have e0 := Got.mv _ s₁ s _ _ hh0.symm (Vm.Alike.refl _) rfl E3
  obtain rfl := e0.1
  have c4 : Steps p.tables e below (s₁.setTop (entryFrame m #[.ref a, .ref b] 2)) (T3.setTop (mkF m 9 #[.val (.ref a), .val (.ref b)] [])) := g3
  exact ⟨T3, none, _, _, _, X3, by simp, rfl, by omega, (fun _ => rfl), e0, fun fs hl => c4.trans (X3.returnOut hexec hret (hb hbytes d9) hl)⟩
theorem pays {l : Launch} {R : Room} {p : Program} {e : Env} {below : List Frame} {s : State} {sargs : Array Value} {len W : Nat} (a : Addr) (D : Cell) (fV fC : Field) (b : Addr) (A : Cell) (z : Int32) (htab : tab.before sargs s = true) (hfr : 4 ≤ R.frames) (hlo : W + 65 ≤ R.locals) :
    Back l R p e below s sargs yN len W (fun A₁ a₁ => A₁.cells + 1 ≤ R.cells ∧ A₁.slots + A.slots.size ≤ R.slots ∧ P a D fV fC b A z a₁ A₁.U) (fun A₁ _ v₁ B₁ => E a D fV fC A v₁ A₁.U B₁.U ∧ B₁.locs = A₁.locs ++ [⟨a, fC.slot⟩, ⟨a, fV.slot⟩] ∧ B₁.cells = A₁.cells + 1 ∧ B₁.slots = A₁.slots + A.slots.size) :=
  (law l a D fV fC b A z).pays htab hfr (by omega)
end New1
end StrChars
namespace StrChars.Road
open Jvm Sem ClassFile Op Lib Jvm.Stand Jvm.Free Jvm.Free.XT
open Jvm.Lib.Cold (StaticIs)
abbrev ST : String := "java/lang/String"
/-- every table word that New1's law asks, flat -/
abbrev words : List Jvm.Cond := [.code New1.yN New1.yB 2 none, .initialized ST, .methodLink ST 27 New4.yN, .instanceMethod New4.yN,
  .code New4.yN New4.yB 6 none, .fieldLink ST 38 ST "COMPACT_STRINGS" "Z", .laysFinal ST ST "value" "[B", .fieldLink ST 9 ST "value" "[B", .laysFinal ST ST "coder" "B", .fieldLink ST 15 ST "coder" "B",
  .methodLink ST 1 Lib.objectInit, .instanceMethod Lib.objectInit, .code Lib.objectInit ⟨#[0xb1]⟩ 1 none, .methodLink ST 177 Cmp3.yN, .static Cmp3.yN, .methodLink ST 47 CodL.yN, .static CodL.yN,
  .code Cmp3.yN Cmp3.yB 6 (some (.array .byte)), .initialized U16, .arrayClass .byte, .methodLink U16 115 Cmp5.yN, .static Cmp5.yN, .code Cmp5.yN Cmp5.yB 7 (some .int), .code CodL.yN CodL.yB 2 (some .byte)]
theorem tab_of {a : Array Value} {s : State} (h : ∀ w ∈ words, w.before a s = true) : New1.tab.before a s = true := by
  have h5 : Cmp5.tab.before a s = true := unparts (wk h (.code Cmp5.yN Cmp5.yB 7 (some .int))) (wks h (.initialized Cmp5.yN.cls :: Cmp5.site))
  have hc : CodL.tab.before a s = true := unparts (wk h (.code CodL.yN CodL.yB 2 (some .byte))) (wks h (.initialized CodL.yN.cls :: CodL.site))
  have q5 : ∀ w ∈ Cmp5.tab :: words, w.before a s = true := fun w hw => (List.mem_cons.mp hw).elim (fun e => e ▸ h5) (h w)
  have h3 : Cmp3.tab.before a s = true := unparts (wk q5 (.code Cmp3.yN Cmp3.yB 6 (some (.array .byte)))) (wks q5 (.initialized Cmp3.yN.cls :: Cmp3.site))
  have q3 : ∀ w ∈ Cmp3.tab :: CodL.tab :: words, w.before a s = true := fun w hw => (List.mem_cons.mp hw).elim (fun e => e ▸ h3) fun hw => (List.mem_cons.mp hw).elim (fun e => e ▸ hc) (h w)
  have h4 : New4.tab.before a s = true := unparts (wk q3 (.code New4.yN New4.yB 6 none)) (wks q3 (.initialized New4.yN.cls :: New4.site))
  have q4 : ∀ w ∈ New4.tab :: words, w.before a s = true := fun w hw => (List.mem_cons.mp hw).elim (fun e => e ▸ h4) (h w)
  exact unparts (wk q4 (.code New1.yN New1.yB 2 none)) (wks q4 (.initialized New1.yN.cls :: New1.site))
/-- the words ride from the start Z to the walk's own state -/
theorem moved {Z s : State} {a0 args : Array Value} (hZ : Z.Warmed39 s.vm) (hw : ∀ d ∈ words, d.before a0 Z = true) : ∀ d ∈ words, d.before args s = true := fun d hd => by
  have q := hw d hd
  have t : ∀ d ∈ words, d = .arrayClass .byte ∨ (d.onTables && d.keepsFace) = true := by decide +kernel
  rcases t d hd with rfl | t
  · exact RoadKit.mvA hZ q
  · exact RoadKit.mv hZ q t
/-- WHAT COMES BACK, over the tables of the start Z: h the heap at the call, h' behind it -/
def Q (Z : State) (x : Addr) (A : Cell) (h : Heap) (v : Option Value) (h' : Heap) (L : List Loc) : Prop := v = none ∧ (∀ y ∈ L, y.base = x) ∧ RoadKit.Keep h h' [x] ∧ h'.size = h.size + 1 ∧ RoadKit.Exa Z h' x ST ∧ RoadKit.Fld Z h' x ST "value" "[B" (.ref h.size) ∧ RoadKit.Fld Z h' x ST "coder" "B" (.int 0) ∧
  (∃ V : Cell, RoadKit.Arr Z h' h.size V .byte ∧ V.vm = .none ∧ Z.vm.findClass "[B" = some V.cls ∧ V.slots.size = A.slots.size ∧ ∀ j, j < A.slots.size → V.slots[j]? = some (.int (lo8 (cv A j)))) ∧
  ∀ (O n d : String) (w : Value), RoadKit.Fld Z h x O n d w → RoadKit.slotOf Z O n d ≠ RoadKit.slotOf Z ST "value" "[B" → RoadKit.slotOf Z O n d ≠ RoadKit.slotOf Z ST "coder" "B" → RoadKit.Fld Z h' x O n d w
/-- **new String(chars) AT A CALL, IN THE ROAD'S FORM**: for specialBack behind newO: x the fresh String, b the char[] with the cell A -/
theorem back {p : Program} {l : Launch} {e : Env} {R : Room} {s : State} {args : Array Value} {below : List Frame} {len W : Nat} {Z : State} {a0 : Array Value} {h : Heap} (hZ : Z.Warmed39 s.vm) (hw : ∀ d ∈ words, d.before a0 Z = true) {kI : Nat} (wi : (Jvm.Cond.instantiable ST kI).before a0 Z = true)
    {x b : Addr} {A : Cell} {z : Int32} {v0 c0 : Value} (E : RoadKit.Exa Z h x ST) (V : RoadKit.Fld Z h x ST "value" "[B" v0) (C : RoadKit.Fld Z h x ST "coder" "B" c0) (K : RoadKit.Arr Z h b A .char) (hty : Typed .char A) (S : RoadKit.Sta Z h ST "COMPACT_STRINGS" "Z" (.int z)) (hz : ¬ z = 0)
    (l0 : 0 < A.slots.size) (l2 : A.slots.size ≤ 536870912) (hp : ∀ i, i < A.slots.size → ¬ 255 < cv A i) (hfr : 4 ≤ R.frames) (hlo : W + 65 ≤ R.locals) :
    Back l R p e below s args New1.yN len W (fun P a => a = #[.ref x, .ref b] ∧ P.U.heap = h ∧ P.cells + 1 ≤ R.cells ∧ P.slots + A.slots.size ≤ R.slots)
      (fun P _ v B => ∃ L, Q Z x A h v B.U.heap L ∧ B.locs = P.locs ++ L ∧ B.cells = P.cells + 1 ∧ B.slots = P.slots + A.slots.size) := by
  intro m meth c P g ig mk a X hg hsize hdg hW hn hp'
  obtain ⟨rfl, rfl, r1, r2⟩ := hp'
  have al : Z.vm.Alike P.U.vm := hZ.alike.trans X.warmed.alike
  obtain ⟨D, cfV, kV, iV, fV, hD, gV, stV, knV, obV, asV, slV⟩ := id V
  obtain ⟨D', cfC, kC, iC, fC, hD', gC, stC, -, -, asC, slC⟩ := id C
  cases hD.symm.trans hD'
  obtain ⟨D2, kD, e1, e2, e3, e4, e5⟩ := id E
  cases hD.symm.trans e1
  obtain ⟨c2, k2, i1, i2, i3, -⟩ := Cond.instantiable_spec wi
  cases e2.symm.trans i1
  cases e3.symm.trans i2
  obtain ⟨kU, u1, u2⟩ := al.2.2 _ _ e3
  have hB : Blank ST x D P.U := ⟨hD, ⟨knV, fun q hq => by rw [hq] at obV; cases obV⟩, by rw [al.findClass]; exact e2, kU, u1, by rw [u2]; exact i3, by rw [u2]; exact e5 i3⟩
  have F1 : Found ST "value" "[B" fV P.U := ⟨SBG.found_only al ⟨cfV, kV, iV, gV⟩, stV⟩
  have F2 : Found ST "coder" "B" fC P.U := ⟨SBG.found_only al ⟨cfC, kC, iC, gC⟩, stC⟩
  have hA : Ch b A P.U := ⟨⟨K.1, State.isArrayOf_alike al K.2.1, K.2.2, by omega⟩, hty⟩
  have hS : StaticIs P.U ST "COMPACT_STRINGS" "Z" (.int z) := by
    obtain ⟨cfS, iS, kS, fS, st, cS, t1, t2, t3, t4, t5, t6, t7⟩ := S
    exact StaticIs.there (s := { Z with heap := P.U.heap }) ⟨cfS, iS, kS, fS, st, cS, t1, t2, t3, t4, t5, (fun q => by rw [q] at t6; cases t6), t7⟩ al rfl
  obtain ⟨v, B, X', ⟨⟨hv, E', V', q1, q2, q3, q4, q5, q6, q7, q8, q9, q10, q11⟩, hl, hc, hs⟩, st⟩ := New1.pays x D fV fC b A z (tab_of (moved hZ hw)) hfr hlo m meth c P g ig mk _ X hg hsize hdg hW hn ⟨r1, r2, rfl, hB, F1, F2, hA, hS, hz, l0, l2, hp⟩
  have al' : Z.vm.Alike B.U.vm := hZ.alike.trans X'.warmed.alike
  have hsz : E'.slots.size = D.slots.size := by
    obtain ⟨-, -, -, kB, w1, w2, w3⟩ := q1
    obtain ⟨kB', y1, y2⟩ := al'.2.2 _ _ e3
    rw [q2.2.1] at w1
    cases w1.symm.trans y1
    rw [w3, e5 i3, y2]
  refine ⟨v, B, X', ⟨_, ⟨hv, ?_, ⟨by omega, fun y cy hy hn' => q10 y cy (by simpa using hn') hy, fun y cy hy => ?_⟩, q11, ⟨E', _, q1.1, by rw [q2.2.1]; exact e2, by rw [q2.2.1]; exact e3, by rw [q2.1]; exact obV, fun _ => by rw [hsz]; exact e5 i3⟩,
    ⟨E', cfV, kV, iV, fV, q1.1, gV, stV, by rw [q2.1]; exact knV, by rw [q2.1]; exact obV, by rw [q2.2.1]; exact asV, q3⟩, ⟨E', cfC, kC, iC, fC, q1.1, gC, stC, by rw [q2.1]; exact knV, by rw [q2.1]; exact obV, by rw [q2.2.1]; exact asC, q4⟩,
    ⟨V', ⟨q5.1, State.isArrayOf_alike al'.symm q5.2.1, q5.2.2.1⟩, q6, by rw [← al'.findClass]; exact q7, q8, fun j hj => by have := q9 j hj; rwa [Nat.zero_add] at this⟩, fun O n d w F n1 n2 => ?_⟩, hl, hc, hs⟩, st⟩
  · intro y hy
    simp only [List.mem_cons, List.not_mem_nil, or_false] at hy
    rcases hy with rfl | rfl <;> rfl
  · by_cases q : y = x
    · subst q
      cases hD.symm.trans hy
      exact ⟨E', q1.1, q2.2.1, q2.1, hsz⟩
    · exact ⟨cy, q10 y cy q hy, rfl, rfl, rfl⟩
  · obtain ⟨D3, cf, k, i, f, g1, g2, g3, g4, g5, g6, g7⟩ := F
    cases hD.symm.trans g1
    simp only [RoadKit.slotOf, g2, gV, gC, Option.map_some, Option.getD_some] at n1 n2
    exact ⟨E', cf, k, i, f, q1.1, g2, g3, by rw [q2.1]; exact g4, by rw [q2.1]; exact g5, by rw [q2.2.1]; exact g6, by rw [q2.2.2 f.slot (by simp [n1, n2])]; exact g7⟩
end StrChars.Road
namespace StrChars.Road
open Jvm Sem ClassFile Op Lib Jvm.Stand Jvm.Free Jvm.Free.XT
/-- WHAT COMES BACK, the byte[] as a list of values -/
def QA (Z : State) (x : Addr) (zn : Int32) (cs : List Int32) (h : Heap) (v : Option Value) (h' : Heap) (L : List Loc) : Prop := v = none ∧ (∀ y ∈ L, y.base = x) ∧ RoadKit.Keep h h' [x] ∧ h'.size = h.size + 1 ∧ RoadKit.Exa Z h' x ST ∧ RoadKit.Fld Z h' x ST "value" "[B" (.ref h.size) ∧ RoadKit.Fld Z h' x ST "coder" "B" (.int 0) ∧
  (∃ kb, Z.vm.findClass "[B" = some kb ∧ RoadKit.Arv Z h' h.size kb .byte zn (cs.map fun c => .int (lo8 c)) (.int 0)) ∧
  ∀ (O n d : String) (w : Value), RoadKit.Fld Z h x O n d w → RoadKit.slotOf Z O n d ≠ RoadKit.slotOf Z ST "value" "[B" → RoadKit.slotOf Z O n d ≠ RoadKit.slotOf Z ST "coder" "B" → RoadKit.Fld Z h' x O n d w
/-- **new String(chars) AT A CALL, THE ARRAYS AS LISTS**: the char[] at b holds cs, not empty, no char above 255 -/
theorem backArv {p : Program} {l : Launch} {e : Env} {R : Room} {s : State} {args : Array Value} {below : List Frame} {len W : Nat} {Z : State} {a0 : Array Value} {h : Heap} (hZ : Z.Warmed39 s.vm) (hw : ∀ d ∈ words, d.before a0 Z = true) {kI : Nat} (wi : (Jvm.Cond.instantiable ST kI).before a0 Z = true)
    {x b : Addr} {k : ClassId} {zn z : Int32} {cs : List Int32} {dv v0 c0 : Value} (E : RoadKit.Exa Z h x ST) (V : RoadKit.Fld Z h x ST "value" "[B" v0) (C : RoadKit.Fld Z h x ST "coder" "B" c0) (K : RoadKit.Arv Z h b k .char zn (cs.map Value.int) dv) (S : RoadKit.Sta Z h ST "COMPACT_STRINGS" "Z" (.int z)) (hz : ¬ z = 0)
    (hlen : zn.toNatClampNeg = cs.length) (h0 : 0 < cs.length) (hbig : cs.length ≤ 536870912) (hall : ∀ c ∈ cs, ¬ 255 < c) (hfr : 4 ≤ R.frames) (hlo : W + 65 ≤ R.locals) :
    Back l R p e below s args New1.yN len W (fun P a => a = #[.ref x, .ref b] ∧ P.U.heap = h ∧ P.cells + 1 ≤ R.cells ∧ P.slots + cs.length ≤ R.slots)
      (fun P _ v B => ∃ L, QA Z x zn cs h v B.U.heap L ∧ B.locs = P.locs ++ L ∧ B.cells = P.cells + 1 ∧ B.slots = P.slots + cs.length) := by
  obtain ⟨A, K1, K2, K3, K4, K5, K6⟩ := K
  have e : A.slots.size = cs.length := K3.trans hlen
  have hat : ∀ (i : Nat) (hi : i < cs.length), A.slots[i]? = some (.int cs[i]) := fun i hi => by rw [K5 i (by omega)]; simp [List.getD_eq_getElem?_getD, hi]
  have hcv : ∀ (i : Nat) (hi : i < cs.length), cv A i = cs[i] := fun i hi => by unfold cv; rw [hat i hi]
  have hty : Typed .char A := fun i v hv => by
    have hi : i < A.slots.size := (Array.getElem?_eq_some_iff.mp hv).1
    have q := K5 i hi
    rw [hv] at q
    rw [Option.some.inj q]
    exact K6 i hi
  refine Back.mono (back hZ hw wi E V C K1 hty S hz (by omega) (by omega) (fun i hi => by rw [hcv i (by omega)]; exact hall _ (List.getElem_mem _)) hfr hlo) (fun P a hp => ⟨hp.1, hp.2.1, hp.2.2.1, by rw [e]; exact hp.2.2.2⟩) (fun P a v B hp hq => ?_)
  obtain ⟨L, ⟨q1, q2, q3, q4, q5, q6, q7, ⟨V', v1, v2, v3, v4, v5⟩, q9⟩, hl, hc, hs⟩ := hq
  refine ⟨L, ⟨q1, q2, q3, q4, q5, q6, q7, ⟨V'.cls, v3, V', v1, rfl, by rw [v4, e, hlen], K4, fun i hi => ?_, fun i hi => ?_⟩, q9⟩, hl, hc, by rw [hs, e]⟩
  · have hi' : i < cs.length := by omega
    rw [v5 i (by omega), hcv i hi']; simp [List.getD_eq_getElem?_getD, hi']
  · have hi' : i < cs.length := by omega
    simp only [List.getD_eq_getElem?_getD, List.getElem?_map, List.getElem?_eq_getElem hi', Option.map_some, Option.getD_some]
    exact fits_lo8 _
end StrChars.Road
namespace StrChars.Road
open Jvm Sem ClassFile Op Lib Jvm.Stand Jvm.Free Jvm.Free.XT
/-- WHAT COMES BACK, in the writer's own shape -/
def QV (Z : State) (x : Addr) (N : Int32) (bs : List Int32) (h : Heap) (n0 : Nat) (v : Option Value) (h' : Heap) (L : List Loc) : Prop := v = none ∧ RoadKit.Fr n0 L ∧ RoadKit.Keep h h' [x] ∧ RoadKit.Exa Z h' x ST ∧ RoadKit.Fld Z h' x ST "coder" "B" (.int 0) ∧
  ∃ (t : Addr) (kb : ClassId), n0 ≤ t ∧ h.size ≤ t ∧ ¬ t = x ∧ RoadKit.Fld Z h' x ST "value" "[B" (.ref t) ∧ RoadKit.Arv Z h' t kb .byte N (bs.map Value.int) (.int 0)
/-- **new String(chars) AT A CALL, FOR THE WRITER**: a char[] of n known ints, each 0 to 255 -/
theorem backV {p : Program} {l : Launch} {e : Env} {R : Room} {s : State} {args : Array Value} {below : List Frame} {len W : Nat} {Z : State} {a0 : Array Value} {h : Heap} (hZ : Z.Warmed39 s.vm) (hw : ∀ d ∈ words, d.before a0 Z = true) {kI : Nat} (wi : (Jvm.Cond.instantiable ST kI).before a0 Z = true)
    {x b : Addr} {kC : ClassId} {cs bs : List Int32} {d v0 c0 : Value} {z N : Int32} {n n0 : Nat} (hx0 : n0 ≤ x) (hh0 : n0 ≤ h.size) (E : RoadKit.Exa Z h x ST) (V : RoadKit.Fld Z h x ST "value" "[B" v0) (C : RoadKit.Fld Z h x ST "coder" "B" c0) (K : RoadKit.Arv Z h b kC .char N (cs.map Value.int) d) (S : RoadKit.Sta Z h ST "COMPACT_STRINGS" "Z" (.int z)) (hz : ¬ z = 0)
    (hn : cs.length = n) (hN : N = Int32.ofNat n) (l0 : 0 < n) (l2 : n ≤ 4000) (hp : ∀ c ∈ cs, ¬ c < 0 ∧ ¬ (255 : Int32) < c) (hb : bs = cs.map (fun c => c.toInt8.toInt32)) (hfr : 4 ≤ R.frames) (hlo : W + 65 ≤ R.locals) :
    Back l R p e below s args (⟨"java/lang/String", "<init>", "([C)V"⟩ : MethodName) len W (fun P a => a = #[.ref x, .ref b] ∧ P.U.heap = h ∧ P.cells + 1 ≤ R.cells ∧ P.slots + n ≤ R.slots)
      (fun P _ v B => ∃ L, QV Z x N bs h n0 v B.U.heap L ∧ B.locs = P.locs ++ L ∧ B.cells = P.cells + 1 ∧ B.slots = P.slots + n) := by
  subst hn hN hb
  refine Back.mono (backArv hZ hw wi E V C K S hz (n32 (by omega)) l0 (by omega) (fun c hc => (hp c hc).2) hfr hlo) (fun P a hp => hp) (fun P a v B hp hq => ?_)
  obtain ⟨L, ⟨q1, q2, q3, q4, q5, q6, q7, ⟨kb, v1, v2⟩, q9⟩, hl, hc, hs⟩ := hq
  exact ⟨L, ⟨q1, fun y hy => by rw [q2 y hy]; exact hx0, q3, q5, q7, h.size, kb, hh0, Nat.le_refl _, Nat.ne_of_gt E.lt, q6, by rw [List.map_map]; exact v2⟩, hl, hc, hs⟩
end StrChars.Road
end Jvm.Pilot.@@N@@

namespace Jvm.Pilot.@@N@@
open Jvm Jvm.ClassFile Sem Op Lib Jvm.Free Jvm.Stand Jvm.LawKit Jvm.RoadKit Bundle Jvm.Pilot.@@N@@.Jvm.D
theorem own_eqint {args : Array Value} {first s : State} {o : Option Outcome} {idx : List Nat} {t : Term} {k : Int32} (h : (Jvm.Cond.eq t (.int k)).value args first o s idx = some true) : t.eval args first o idx s = some (.int k) := by
  obtain ⟨x, y, hx, hy, hk, hk'⟩ := cmp_v (Or.inl h)
  have ey : y = .int k := (Option.some.inj ((Term.int_eval k).symm.trans hy)).symm
  subst ey
  obtain ⟨z, rfl⟩ := hk'
  have hv : (Jvm.Cond.eq t (.int k)).value args first o s idx = some (decide (z = k)) := by simp [Cond.value, hx, hy]
  have := gotT hv h
  rw [hx, this]
theorem own_eqref {args : Array Value} {first s : State} {o : Option Outcome} {idx : List Nat} {t u : Term} {v : Value} (h : (Jvm.Cond.eq t u).value args first o s idx = some true) (hu : u.eval args first o idx s = some v) (hv : v.isRef = true) : t.eval args first o idx s = some v := by
  obtain ⟨x, y, hx, hy, hk, hk'⟩ := cmp_v (Or.inl h)
  have ey : y = v := Option.some.inj (hy.symm.trans hu)
  subst ey
  have hxr : x.isRef = true := by cases y <;> simp [Value.isRef] at hv <;> exact hk'.2
  have := gotT (eq_R hx hy hxr hv) h
  rw [hx, this]
theorem own_fld {args : Array Value} {s : State} {t : Term} {C n d : String} {k : Int32} {a : Addr} (ht : t.eval args s none [] s = some (.ref a)) (h : (Jvm.Cond.eq (.field t C n d) (.int k)).value args s none s [] = some true) : Fld s s.heap a C n d (.int k) := Fld.start ((fld_at ht).symm.trans (own_eqint h))
theorem own_fld_inj {Z : State} {h : Heap} {a : Addr} {C n d : String} {v w : Value} (F : Fld Z h a C n d v) (G : Fld Z h a C n d w) : v = w := by
  obtain ⟨c1, cf1, k1, i1, f1, h1, h2, -, -, -, -, h3⟩ := F
  obtain ⟨c2, cf2, k2, i2, f2, g1, g2, -, -, -, -, g3⟩ := G
  rw [h1] at g1; cases g1
  rw [h2] at g2; cases g2
  exact Option.some.inj (h3.symm.trans g3)
theorem own_ne {Z : State} {h : Heap} {a b : Addr} {C n d : String} {i j : Int32} (F : Fld Z h a C n d (.int i)) (G : Fld Z h b C n d (.int j)) (hij : ¬ i = j) : ¬ a = b := fun e => by
  subst e
  exact hij (Value.int.inj (own_fld_inj F G))
theorem own_keep_ext {h h' : Heap} (K : Keep h h' []) : Ext h h' := ⟨K.1, fun a c q => K.2.1 a c q nin0⟩
theorem own_sta_keep {Z : State} {h h' : Heap} {C n d C' : String} {v : Value} {b : Addr} (F : Sta Z h C n d v) (K : Keep h h' [b]) (E : Exa Z h b C') : Sta Z h' C n d v := by
  obtain ⟨cf, i, k, f, st, cell, h1, h2, h3, h4, h5, h6, h7⟩ := F
  obtain ⟨cell', k', g1, g2, g3, g4, g5⟩ := E
  refine ⟨cf, i, k, f, st, cell, h1, h2, h3, h4, K.2.1 st cell h5 (ninS (fun q => ?_) nin0), h6, h7⟩
  subst q
  rw [h5] at g1; cases g1
  rw [h6] at g4; cases g4
theorem own_rem (x : Int32) (m : Int32) (n : Int) (hm : m.toInt = n) (hn : 0 < n) : 0 ≤ ((x &&& (2147483647 : Int32)) % m).toInt ∧ ((x &&& (2147483647 : Int32)) % m).toInt < n := by
  have e1 : (x &&& (2147483647 : Int32)).toInt = x.toInt % 2 ^ 31 := Jvm.Kit.i32_mask x 2147483647 (k := 31) (by decide) (by decide)
  have h0 : 0 ≤ (x &&& (2147483647 : Int32)).toInt := by rw [e1]; omega
  rw [(c_irem _ m n hm).1 h0]
  exact ⟨Int.emod_nonneg _ (by omega), Int.emod_lt_of_pos _ hn⟩
theorem own_cases7 {k : Int32} (h0 : 0 ≤ k.toInt) (h1 : k.toInt < 7) : k = (0 : Int32) ∨ k = (1 : Int32) ∨ k = (2 : Int32) ∨ k = (3 : Int32) ∨ k = (4 : Int32) ∨ k = (5 : Int32) ∨ k = (6 : Int32) := by
  have h : k.toInt = 0 ∨ k.toInt = 1 ∨ k.toInt = 2 ∨ k.toInt = 3 ∨ k.toInt = 4 ∨ k.toInt = 5 ∨ k.toInt = 6 := by omega
  rcases h with h | h | h | h | h | h | h
  · exact Or.inl (Int32.toInt_inj.mp (by rw [h]; rfl))
  · exact Or.inr (Or.inl (Int32.toInt_inj.mp (by rw [h]; rfl)))
  · exact Or.inr (Or.inr (Or.inl (Int32.toInt_inj.mp (by rw [h]; rfl))))
  · exact Or.inr (Or.inr (Or.inr (Or.inl (Int32.toInt_inj.mp (by rw [h]; rfl)))))
  · exact Or.inr (Or.inr (Or.inr (Or.inr (Or.inl (Int32.toInt_inj.mp (by rw [h]; rfl))))))
  · exact Or.inr (Or.inr (Or.inr (Or.inr (Or.inr (Or.inl (Int32.toInt_inj.mp (by rw [h]; rfl)))))))
  · exact Or.inr (Or.inr (Or.inr (Or.inr (Or.inr (Or.inr ((Int32.toInt_inj.mp (by rw [h]; rfl))))))))
theorem own_chr (x : Int32) : nar .char ((x &&& (255 : Int32)).toUInt32.toUInt16.toUInt32.toInt32) = x &&& (255 : Int32) := by
  have h : nar .char ((x &&& (255 : Int32)).toUInt32.toUInt16.toUInt32.toInt32) = ((x &&& (255 : Int32)).toUInt32.toUInt16.toUInt32.toInt32).toUInt32.toUInt16.toUInt32.toInt32 := rfl
  rw [h, i2c_mask, i2c_mask]
theorem own_chrb (x : Int32) : ∀ c ∈ [nar .char ((x &&& (255 : Int32)).toUInt32.toUInt16.toUInt32.toInt32)], ¬ c < 0 ∧ ¬ (255 : Int32) < c := by
  intro c hc
  rw [List.mem_singleton] at hc
  subst hc
  rw [own_chr]
  have e1 : (x &&& (255 : Int32)).toInt = x.toInt % 2 ^ 8 := Jvm.Kit.i32_mask x 255 (k := 8) (by decide) (by decide)
  have e2 : (255 : Int32).toInt = 255 := rfl
  have e3 : (0 : Int32).toInt = 0 := rfl
  rw [Int32.lt_iff_toInt_lt, Int32.lt_iff_toInt_lt]
  omega
theorem own_start (x : Int32) : ¬ (x &&& (2147483647 : Int32)) < (0 : Int32) := by
  have e1 : (x &&& (2147483647 : Int32)).toInt = x.toInt % 2 ^ 31 := Jvm.Kit.i32_mask x 2147483647 (k := 31) (by decide) (by decide)
  have e3 : (0 : Int32).toInt = 0 := rfl
  rw [Int32.lt_iff_toInt_lt]
  omega
theorem own_fldref {args : Array Value} {s : State} {t u : Term} {C n d : String} {a w : Addr} (ht : t.eval args s none [] s = some (.ref a)) (hu : u.eval args s none [] s = some (.ref w)) (h : (Jvm.Cond.eq (.field t C n d) u).value args s none s [] = some true) : Fld s s.heap a C n d (.ref w) := Fld.start ((fld_at ht).symm.trans (own_eqref h hu rfl))
def pickA (k : Int32) (w_AMOUNT : Addr) (w_CURRENCY : Addr) (w_MERCHANT_ID : Addr) (w_IP_ADDRESS : Addr) (w_DEVICE_ID : Addr) (w_USER_AGE : Addr) (w_USER_REGION : Addr) : Addr := if k = (0 : Int32) then w_AMOUNT else if k = (1 : Int32) then w_CURRENCY else if k = (2 : Int32) then w_MERCHANT_ID else if k = (3 : Int32) then w_IP_ADDRESS else if k = (4 : Int32) then w_DEVICE_ID else if k = (5 : Int32) then w_USER_AGE else w_USER_REGION
theorem d1_0 : decode method_3_code 0 = .ok (.iload_n 0, 1) := by decide +kernel
theorem d1_1 : decode method_3_code 1 = .ok (.ifCond .ne 7, 3) := by decide +kernel
theorem d1_4 : decode method_3_code 4 = .ok (.getstatic 39, 3) := by decide +kernel
theorem d1_7 : decode method_3_code 7 = .ok (.areturn, 1) := by decide +kernel
theorem d1_8 : decode method_3_code 8 = .ok (.iload_n 0, 1) := by decide +kernel
theorem d1_9 : decode method_3_code 9 = .ok (.iconst 1, 1) := by decide +kernel
theorem d1_10 : decode method_3_code 10 = .ok (.if_icmp .ne 7, 3) := by decide +kernel
theorem d1_13 : decode method_3_code 13 = .ok (.getstatic 43, 3) := by decide +kernel
theorem d1_16 : decode method_3_code 16 = .ok (.areturn, 1) := by decide +kernel
theorem d1_17 : decode method_3_code 17 = .ok (.iload_n 0, 1) := by decide +kernel
theorem d1_18 : decode method_3_code 18 = .ok (.iconst 2, 1) := by decide +kernel
theorem d1_19 : decode method_3_code 19 = .ok (.if_icmp .ne 7, 3) := by decide +kernel
theorem d1_22 : decode method_3_code 22 = .ok (.getstatic 46, 3) := by decide +kernel
theorem d1_25 : decode method_3_code 25 = .ok (.areturn, 1) := by decide +kernel
theorem d1_26 : decode method_3_code 26 = .ok (.iload_n 0, 1) := by decide +kernel
theorem d1_27 : decode method_3_code 27 = .ok (.iconst 3, 1) := by decide +kernel
theorem d1_28 : decode method_3_code 28 = .ok (.if_icmp .ne 7, 3) := by decide +kernel
theorem d1_31 : decode method_3_code 31 = .ok (.getstatic 49, 3) := by decide +kernel
theorem d1_34 : decode method_3_code 34 = .ok (.areturn, 1) := by decide +kernel
theorem d1_35 : decode method_3_code 35 = .ok (.iload_n 0, 1) := by decide +kernel
theorem d1_36 : decode method_3_code 36 = .ok (.iconst 4, 1) := by decide +kernel
theorem d1_37 : decode method_3_code 37 = .ok (.if_icmp .ne 7, 3) := by decide +kernel
theorem d1_40 : decode method_3_code 40 = .ok (.getstatic 52, 3) := by decide +kernel
theorem d1_43 : decode method_3_code 43 = .ok (.areturn, 1) := by decide +kernel
theorem d1_44 : decode method_3_code 44 = .ok (.iload_n 0, 1) := by decide +kernel
theorem d1_45 : decode method_3_code 45 = .ok (.iconst 5, 1) := by decide +kernel
theorem d1_46 : decode method_3_code 46 = .ok (.if_icmp .ne 7, 3) := by decide +kernel
theorem d1_49 : decode method_3_code 49 = .ok (.getstatic 55, 3) := by decide +kernel
theorem d1_52 : decode method_3_code 52 = .ok (.areturn, 1) := by decide +kernel
theorem d1_53 : decode method_3_code 53 = .ok (.getstatic 58, 3) := by decide +kernel
theorem d1_56 : decode method_3_code 56 = .ok (.areturn, 1) := by decide +kernel
theorem pn_rm1 : plainName "com/example/riscontro/riscontro/rules/FieldTakesPinLaw" = true := by first | (simp [plainName, overriddenIn]; done) | decide +kernel
theorem ef_rm1 (m : MethodId) (p1 : Int32) : entryFrame m #[(.int p1)] 1 = mkF m 0 #[.val (.int p1)] [] := by first | (simp [entryFrame, mkF, argsToLocals, Value.category]; done) | rfl
def Q_rm1 (Z : State) (p1 : Int32) (w_AMOUNT : Addr) (w_CURRENCY : Addr) (w_MERCHANT_ID : Addr) (w_IP_ADDRESS : Addr) (w_DEVICE_ID : Addr) (w_USER_AGE : Addr) (w_USER_REGION : Addr) (r : Addr) (h0 : Heap) (n0 : Nat) (v : Option Value) (h : Heap) (L : List Loc) : Prop := v = some (.ref r) ∧ Fr n0 L ∧ h = h0
set_option maxRecDepth 65536 in
set_option maxHeartbeats 40000000 in
theorem rm1 (l : Launch) (Z : State) (a0 : Array Value) (hw : ∀ d ∈ tables_1, d.before a0 Z = true) (ws : List Jvm.Cond) (p1 : Int32) (w_AMOUNT : Addr) (w_CURRENCY : Addr) (w_MERCHANT_ID : Addr) (w_IP_ADDRESS : Addr) (w_DEVICE_ID : Addr) (w_USER_AGE : Addr) (w_USER_REGION : Addr) (r : Addr) (h0 : Heap) (n0 : Nat) (Z0 : n0 ≤ h0.size) (S_AMOUNT : Sta Z h0 "com/example/riscontro/riscontro/rules/Field" "AMOUNT" "Lcom/example/riscontro/riscontro/rules/Field;" (.ref w_AMOUNT)) (S_CURRENCY : Sta Z h0 "com/example/riscontro/riscontro/rules/Field" "CURRENCY" "Lcom/example/riscontro/riscontro/rules/Field;" (.ref w_CURRENCY)) (S_MERCHANT_ID : Sta Z h0 "com/example/riscontro/riscontro/rules/Field" "MERCHANT_ID" "Lcom/example/riscontro/riscontro/rules/Field;" (.ref w_MERCHANT_ID)) (S_IP_ADDRESS : Sta Z h0 "com/example/riscontro/riscontro/rules/Field" "IP_ADDRESS" "Lcom/example/riscontro/riscontro/rules/Field;" (.ref w_IP_ADDRESS)) (S_DEVICE_ID : Sta Z h0 "com/example/riscontro/riscontro/rules/Field" "DEVICE_ID" "Lcom/example/riscontro/riscontro/rules/Field;" (.ref w_DEVICE_ID)) (S_USER_AGE : Sta Z h0 "com/example/riscontro/riscontro/rules/Field" "USER_AGE" "Lcom/example/riscontro/riscontro/rules/Field;" (.ref w_USER_AGE)) (S_USER_REGION : Sta Z h0 "com/example/riscontro/riscontro/rules/Field" "USER_REGION" "Lcom/example/riscontro/riscontro/rules/Field;" (.ref w_USER_REGION)) (hret : pickA p1 w_AMOUNT w_CURRENCY w_MERCHANT_ID w_IP_ADDRESS w_DEVICE_ID w_USER_AGE w_USER_REGION = r) :
    MetFree l (⟨"com/example/riscontro/riscontro/rules/FieldTakesPinLaw", "pick", "(I)Lcom/example/riscontro/riscontro/rules/Field;"⟩ : MethodName) (head1 (Jvm.Cond.code (⟨"com/example/riscontro/riscontro/rules/FieldTakesPinLaw", "pick", "(I)Lcom/example/riscontro/riscontro/rules/Field;"⟩ : MethodName) method_3_code 1 (some (.object "com/example/riscontro/riscontro/rules/Field")) :: ws) ({ frames := 0, cells := 0, slots := 0, locals := 0 } : Room)) (fun a U => a = #[(.int p1)] ∧ Z.Warmed39 U.vm ∧ U.heap = h0) (fun _ _ _ _ _ => True) (fun _ U o U' => ∃ v L, o = .returned v ∧ Q_rm1 Z p1 w_AMOUNT w_CURRENCY w_MERCHANT_ID w_IP_ADDRESS w_DEVICE_ID w_USER_AGE w_USER_REGION r h0 n0 v U'.heap L ∧ FrameEnd U o U' L ({ frames := 0, cells := 0, slots := 0, locals := 0 } : Room).cells ({ frames := 0, cells := 0, slots := 0, locals := 0 } : Room).slots) := by
  refine MetFree.of_bodySF (plainFor_of_name pn_rm1) hisR ?_
  intro p e s m args below meth c s₁ Bd hml0 hP hK
  obtain ⟨rfl, hZ, hh⟩ := hP
  have hx := Bd.exec
  have hby := Bd.bytes
  have hml : c.maxLocals = 1 := hml0
  have hown : s.vm.findClass "com/example/riscontro/riscontro/rules/FieldTakesPinLaw" = some m.cls := findClass_of_methodNamed Bd.named
  have hnm := (name_of_methodNamed Bd.named Bd.method).1
  have X0 : Stand p l e ({ frames := 0, cells := 0, slots := 0, locals := 0 } : Room) s m #[(.int p1)] below meth c s₁ [] 0 0 := Stand.of_body Bd
  have e0 : s₁.heap = h0 := by rw [← hh, Bd.state]; rfl
  have N0 := Fr.nil n0
  have pre0 : ∀ t, Steps p.tables e below (s₁.setTop (mkF m 0 #[.val (.int p1)] [])) t → Steps p.tables e below (s₁.setTop (entryFrame m #[(.int p1)] 1)) t := fun t k => castTop (ef_rm1 m p1) k
  have pre1 : ∀ t, Steps p.tables e below (s₁.setTop (mkF m 1 #[.val (.int p1)] [(.int p1)])) t → Steps p.tables e below (s₁.setTop (entryFrame m #[(.int p1)] 1)) t := fun t k => pre0 t (by
      show Steps p.tables e below (s₁.setTop (mkF m 0 #[.val (.int p1)] [])) _
      refine XS.iloadN X0.here hx rfl (hb hby d1_0) rfl ?_
      exact k)
  by_cases hc2 : p1 = (0 : Int32)
  · obtain ⟨T3, X3, e3, st3⟩ := getS2 X0 hx hZ hown (host := "") (Or.inl (hw _ (List.mem_of_getElem? (i := 5) rfl))) Via.refl e0 S_AMOUNT (g := (mkF m 4 #[.val (.int p1)] [])) rfl (hb hby d1_4)
    obtain ⟨fs, hr, hrun, hended, hW, hsame⟩ := X3.leave (v := some (.ref w_AMOUNT)) (fun h => by rw [Bd.returns] at h; cases h)
    refine ⟨_, _, pre1 _ ?_, hrun, hended, _, _, rfl, ?_, ⟨_, rfl⟩, hW, hsame.mono (by decide) (by decide)⟩
    · show Steps p.tables e below (s₁.setTop (mkF m 1 #[.val (.int p1)] [(.int p1)])) _
      refine XS.ifNo X0.here hx rfl (hb hby d1_1) rfl ((if0 _ _).trans (teq hc2).2) ?_
      show Steps p.tables e below (s₁.setTop (mkF m 4 #[.val (.int p1)] [])) _
      refine st3 _ ?_
      show Steps p.tables e below (T3.setTop (mkF m 7 #[.val (.int p1)] [(.ref w_AMOUNT)])) _
      jvm_step X3.here [X3.here.top, hx, (hb hby d1_7), X3.method', Bd.returns, Value.isRef, FieldType.isReference]
      first | (intro acts; rw [hr _ acts rfl rfl rfl]) | rw [hr _ _ rfl rfl rfl]
      exact Steps.refl _
    · show Q_rm1 Z p1 w_AMOUNT w_CURRENCY w_MERCHANT_ID w_IP_ADDRESS w_DEVICE_ID w_USER_AGE w_USER_REGION r h0 n0 _ T3.heap _
      rw [e3]
      exact ⟨by rw [← hret]; simp only [pickA, if_pos hc2], N0, rfl⟩
  · have pre4 : ∀ t, Steps p.tables e below (s₁.setTop (mkF m 10 #[.val (.int p1)] [(.int (1 : Int32)), (.int p1)])) t → Steps p.tables e below (s₁.setTop (entryFrame m #[(.int p1)] 1)) t := fun t k => pre1 t (by
        show Steps p.tables e below (s₁.setTop (mkF m 1 #[.val (.int p1)] [(.int p1)])) _
        refine XS.ifYes X0.here hx rfl (pc0 := 1) (pc' := 8) rfl (hb hby d1_1) rfl ((if0 _ _).trans (feq hc2).2) (by decide) (by decide) ?_
        show Steps p.tables e below (s₁.setTop (mkF m 8 #[.val (.int p1)] [])) _
        refine XS.iloadN X0.here hx rfl (hb hby d1_8) rfl ?_
        show Steps p.tables e below (s₁.setTop (mkF m 9 #[.val (.int p1)] [(.int p1)])) _
        refine XS.iconst X0.here hx rfl (hb hby d1_9) ?_
        exact k)
    by_cases hc5 : p1 = (1 : Int32)
    · obtain ⟨T6, X6, e6, st6⟩ := getS2 X0 hx hZ hown (host := "") (Or.inl (hw _ (List.mem_of_getElem? (i := 85) rfl))) Via.refl e0 S_CURRENCY (g := (mkF m 13 #[.val (.int p1)] [])) rfl (hb hby d1_13)
      obtain ⟨fs, hr, hrun, hended, hW, hsame⟩ := X6.leave (v := some (.ref w_CURRENCY)) (fun h => by rw [Bd.returns] at h; cases h)
      refine ⟨_, _, pre4 _ ?_, hrun, hended, _, _, rfl, ?_, ⟨_, rfl⟩, hW, hsame.mono (by decide) (by decide)⟩
      · show Steps p.tables e below (s₁.setTop (mkF m 10 #[.val (.int p1)] [(.int (1 : Int32)), (.int p1)])) _
        refine XS.icmpNo X0.here hx rfl (hb hby d1_10) rfl (teq hc5).2 ?_
        show Steps p.tables e below (s₁.setTop (mkF m 13 #[.val (.int p1)] [])) _
        refine st6 _ ?_
        show Steps p.tables e below (T6.setTop (mkF m 16 #[.val (.int p1)] [(.ref w_CURRENCY)])) _
        jvm_step X6.here [X6.here.top, hx, (hb hby d1_16), X6.method', Bd.returns, Value.isRef, FieldType.isReference]
        first | (intro acts; rw [hr _ acts rfl rfl rfl]) | rw [hr _ _ rfl rfl rfl]
        exact Steps.refl _
      · show Q_rm1 Z p1 w_AMOUNT w_CURRENCY w_MERCHANT_ID w_IP_ADDRESS w_DEVICE_ID w_USER_AGE w_USER_REGION r h0 n0 _ T6.heap _
        rw [e6]
        exact ⟨by rw [← hret]; simp only [pickA, if_neg hc2, if_pos hc5], N0, rfl⟩
    · have pre7 : ∀ t, Steps p.tables e below (s₁.setTop (mkF m 19 #[.val (.int p1)] [(.int (2 : Int32)), (.int p1)])) t → Steps p.tables e below (s₁.setTop (entryFrame m #[(.int p1)] 1)) t := fun t k => pre4 t (by
          show Steps p.tables e below (s₁.setTop (mkF m 10 #[.val (.int p1)] [(.int (1 : Int32)), (.int p1)])) _
          refine XS.icmpYes X0.here hx rfl (pc0 := 10) (pc' := 17) rfl (hb hby d1_10) rfl (feq hc5).2 (by decide) (by decide) ?_
          show Steps p.tables e below (s₁.setTop (mkF m 17 #[.val (.int p1)] [])) _
          refine XS.iloadN X0.here hx rfl (hb hby d1_17) rfl ?_
          show Steps p.tables e below (s₁.setTop (mkF m 18 #[.val (.int p1)] [(.int p1)])) _
          refine XS.iconst X0.here hx rfl (hb hby d1_18) ?_
          exact k)
      by_cases hc8 : p1 = (2 : Int32)
      · obtain ⟨T9, X9, e9, st9⟩ := getS2 X0 hx hZ hown (host := "") (Or.inl (hw _ (List.mem_of_getElem? (i := 81) rfl))) Via.refl e0 S_MERCHANT_ID (g := (mkF m 22 #[.val (.int p1)] [])) rfl (hb hby d1_22)
        obtain ⟨fs, hr, hrun, hended, hW, hsame⟩ := X9.leave (v := some (.ref w_MERCHANT_ID)) (fun h => by rw [Bd.returns] at h; cases h)
        refine ⟨_, _, pre7 _ ?_, hrun, hended, _, _, rfl, ?_, ⟨_, rfl⟩, hW, hsame.mono (by decide) (by decide)⟩
        · show Steps p.tables e below (s₁.setTop (mkF m 19 #[.val (.int p1)] [(.int (2 : Int32)), (.int p1)])) _
          refine XS.icmpNo X0.here hx rfl (hb hby d1_19) rfl (teq hc8).2 ?_
          show Steps p.tables e below (s₁.setTop (mkF m 22 #[.val (.int p1)] [])) _
          refine st9 _ ?_
          show Steps p.tables e below (T9.setTop (mkF m 25 #[.val (.int p1)] [(.ref w_MERCHANT_ID)])) _
          jvm_step X9.here [X9.here.top, hx, (hb hby d1_25), X9.method', Bd.returns, Value.isRef, FieldType.isReference]
          first | (intro acts; rw [hr _ acts rfl rfl rfl]) | rw [hr _ _ rfl rfl rfl]
          exact Steps.refl _
        · show Q_rm1 Z p1 w_AMOUNT w_CURRENCY w_MERCHANT_ID w_IP_ADDRESS w_DEVICE_ID w_USER_AGE w_USER_REGION r h0 n0 _ T9.heap _
          rw [e9]
          exact ⟨by rw [← hret]; simp only [pickA, if_neg hc2, if_neg hc5, if_pos hc8], N0, rfl⟩
      · have pre10 : ∀ t, Steps p.tables e below (s₁.setTop (mkF m 28 #[.val (.int p1)] [(.int (3 : Int32)), (.int p1)])) t → Steps p.tables e below (s₁.setTop (entryFrame m #[(.int p1)] 1)) t := fun t k => pre7 t (by
            show Steps p.tables e below (s₁.setTop (mkF m 19 #[.val (.int p1)] [(.int (2 : Int32)), (.int p1)])) _
            refine XS.icmpYes X0.here hx rfl (pc0 := 19) (pc' := 26) rfl (hb hby d1_19) rfl (feq hc8).2 (by decide) (by decide) ?_
            show Steps p.tables e below (s₁.setTop (mkF m 26 #[.val (.int p1)] [])) _
            refine XS.iloadN X0.here hx rfl (hb hby d1_26) rfl ?_
            show Steps p.tables e below (s₁.setTop (mkF m 27 #[.val (.int p1)] [(.int p1)])) _
            refine XS.iconst X0.here hx rfl (hb hby d1_27) ?_
            exact k)
        by_cases hc11 : p1 = (3 : Int32)
        · obtain ⟨T12, X12, e12, st12⟩ := getS2 X0 hx hZ hown (host := "") (Or.inl (hw _ (List.mem_of_getElem? (i := 87) rfl))) Via.refl e0 S_IP_ADDRESS (g := (mkF m 31 #[.val (.int p1)] [])) rfl (hb hby d1_31)
          obtain ⟨fs, hr, hrun, hended, hW, hsame⟩ := X12.leave (v := some (.ref w_IP_ADDRESS)) (fun h => by rw [Bd.returns] at h; cases h)
          refine ⟨_, _, pre10 _ ?_, hrun, hended, _, _, rfl, ?_, ⟨_, rfl⟩, hW, hsame.mono (by decide) (by decide)⟩
          · show Steps p.tables e below (s₁.setTop (mkF m 28 #[.val (.int p1)] [(.int (3 : Int32)), (.int p1)])) _
            refine XS.icmpNo X0.here hx rfl (hb hby d1_28) rfl (teq hc11).2 ?_
            show Steps p.tables e below (s₁.setTop (mkF m 31 #[.val (.int p1)] [])) _
            refine st12 _ ?_
            show Steps p.tables e below (T12.setTop (mkF m 34 #[.val (.int p1)] [(.ref w_IP_ADDRESS)])) _
            jvm_step X12.here [X12.here.top, hx, (hb hby d1_34), X12.method', Bd.returns, Value.isRef, FieldType.isReference]
            first | (intro acts; rw [hr _ acts rfl rfl rfl]) | rw [hr _ _ rfl rfl rfl]
            exact Steps.refl _
          · show Q_rm1 Z p1 w_AMOUNT w_CURRENCY w_MERCHANT_ID w_IP_ADDRESS w_DEVICE_ID w_USER_AGE w_USER_REGION r h0 n0 _ T12.heap _
            rw [e12]
            exact ⟨by rw [← hret]; simp only [pickA, if_neg hc2, if_neg hc5, if_neg hc8, if_pos hc11], N0, rfl⟩
        · have pre13 : ∀ t, Steps p.tables e below (s₁.setTop (mkF m 37 #[.val (.int p1)] [(.int (4 : Int32)), (.int p1)])) t → Steps p.tables e below (s₁.setTop (entryFrame m #[(.int p1)] 1)) t := fun t k => pre10 t (by
              show Steps p.tables e below (s₁.setTop (mkF m 28 #[.val (.int p1)] [(.int (3 : Int32)), (.int p1)])) _
              refine XS.icmpYes X0.here hx rfl (pc0 := 28) (pc' := 35) rfl (hb hby d1_28) rfl (feq hc11).2 (by decide) (by decide) ?_
              show Steps p.tables e below (s₁.setTop (mkF m 35 #[.val (.int p1)] [])) _
              refine XS.iloadN X0.here hx rfl (hb hby d1_35) rfl ?_
              show Steps p.tables e below (s₁.setTop (mkF m 36 #[.val (.int p1)] [(.int p1)])) _
              refine XS.iconst X0.here hx rfl (hb hby d1_36) ?_
              exact k)
          by_cases hc14 : p1 = (4 : Int32)
          · obtain ⟨T15, X15, e15, st15⟩ := getS2 X0 hx hZ hown (host := "") (Or.inl (hw _ (List.mem_of_getElem? (i := 89) rfl))) Via.refl e0 S_DEVICE_ID (g := (mkF m 40 #[.val (.int p1)] [])) rfl (hb hby d1_40)
            obtain ⟨fs, hr, hrun, hended, hW, hsame⟩ := X15.leave (v := some (.ref w_DEVICE_ID)) (fun h => by rw [Bd.returns] at h; cases h)
            refine ⟨_, _, pre13 _ ?_, hrun, hended, _, _, rfl, ?_, ⟨_, rfl⟩, hW, hsame.mono (by decide) (by decide)⟩
            · show Steps p.tables e below (s₁.setTop (mkF m 37 #[.val (.int p1)] [(.int (4 : Int32)), (.int p1)])) _
              refine XS.icmpNo X0.here hx rfl (hb hby d1_37) rfl (teq hc14).2 ?_
              show Steps p.tables e below (s₁.setTop (mkF m 40 #[.val (.int p1)] [])) _
              refine st15 _ ?_
              show Steps p.tables e below (T15.setTop (mkF m 43 #[.val (.int p1)] [(.ref w_DEVICE_ID)])) _
              jvm_step X15.here [X15.here.top, hx, (hb hby d1_43), X15.method', Bd.returns, Value.isRef, FieldType.isReference]
              first | (intro acts; rw [hr _ acts rfl rfl rfl]) | rw [hr _ _ rfl rfl rfl]
              exact Steps.refl _
            · show Q_rm1 Z p1 w_AMOUNT w_CURRENCY w_MERCHANT_ID w_IP_ADDRESS w_DEVICE_ID w_USER_AGE w_USER_REGION r h0 n0 _ T15.heap _
              rw [e15]
              exact ⟨by rw [← hret]; simp only [pickA, if_neg hc2, if_neg hc5, if_neg hc8, if_neg hc11, if_pos hc14], N0, rfl⟩
          · have pre16 : ∀ t, Steps p.tables e below (s₁.setTop (mkF m 46 #[.val (.int p1)] [(.int (5 : Int32)), (.int p1)])) t → Steps p.tables e below (s₁.setTop (entryFrame m #[(.int p1)] 1)) t := fun t k => pre13 t (by
                show Steps p.tables e below (s₁.setTop (mkF m 37 #[.val (.int p1)] [(.int (4 : Int32)), (.int p1)])) _
                refine XS.icmpYes X0.here hx rfl (pc0 := 37) (pc' := 44) rfl (hb hby d1_37) rfl (feq hc14).2 (by decide) (by decide) ?_
                show Steps p.tables e below (s₁.setTop (mkF m 44 #[.val (.int p1)] [])) _
                refine XS.iloadN X0.here hx rfl (hb hby d1_44) rfl ?_
                show Steps p.tables e below (s₁.setTop (mkF m 45 #[.val (.int p1)] [(.int p1)])) _
                refine XS.iconst X0.here hx rfl (hb hby d1_45) ?_
                exact k)
            by_cases hc17 : p1 = (5 : Int32)
            · obtain ⟨T18, X18, e18, st18⟩ := getS2 X0 hx hZ hown (host := "") (Or.inl (hw _ (List.mem_of_getElem? (i := 79) rfl))) Via.refl e0 S_USER_AGE (g := (mkF m 49 #[.val (.int p1)] [])) rfl (hb hby d1_49)
              obtain ⟨fs, hr, hrun, hended, hW, hsame⟩ := X18.leave (v := some (.ref w_USER_AGE)) (fun h => by rw [Bd.returns] at h; cases h)
              refine ⟨_, _, pre16 _ ?_, hrun, hended, _, _, rfl, ?_, ⟨_, rfl⟩, hW, hsame.mono (by decide) (by decide)⟩
              · show Steps p.tables e below (s₁.setTop (mkF m 46 #[.val (.int p1)] [(.int (5 : Int32)), (.int p1)])) _
                refine XS.icmpNo X0.here hx rfl (hb hby d1_46) rfl (teq hc17).2 ?_
                show Steps p.tables e below (s₁.setTop (mkF m 49 #[.val (.int p1)] [])) _
                refine st18 _ ?_
                show Steps p.tables e below (T18.setTop (mkF m 52 #[.val (.int p1)] [(.ref w_USER_AGE)])) _
                jvm_step X18.here [X18.here.top, hx, (hb hby d1_52), X18.method', Bd.returns, Value.isRef, FieldType.isReference]
                first | (intro acts; rw [hr _ acts rfl rfl rfl]) | rw [hr _ _ rfl rfl rfl]
                exact Steps.refl _
              · show Q_rm1 Z p1 w_AMOUNT w_CURRENCY w_MERCHANT_ID w_IP_ADDRESS w_DEVICE_ID w_USER_AGE w_USER_REGION r h0 n0 _ T18.heap _
                rw [e18]
                exact ⟨by rw [← hret]; simp only [pickA, if_neg hc2, if_neg hc5, if_neg hc8, if_neg hc11, if_neg hc14, if_pos hc17], N0, rfl⟩
            · obtain ⟨T19, X19, e19, st19⟩ := getS2 X0 hx hZ hown (host := "") (Or.inl (hw _ (List.mem_of_getElem? (i := 91) rfl))) Via.refl e0 S_USER_REGION (g := (mkF m 53 #[.val (.int p1)] [])) rfl (hb hby d1_53)
              obtain ⟨fs, hr, hrun, hended, hW, hsame⟩ := X19.leave (v := some (.ref w_USER_REGION)) (fun h => by rw [Bd.returns] at h; cases h)
              refine ⟨_, _, pre16 _ ?_, hrun, hended, _, _, rfl, ?_, ⟨_, rfl⟩, hW, hsame.mono (by decide) (by decide)⟩
              · show Steps p.tables e below (s₁.setTop (mkF m 46 #[.val (.int p1)] [(.int (5 : Int32)), (.int p1)])) _
                refine XS.icmpYes X0.here hx rfl (pc0 := 46) (pc' := 53) rfl (hb hby d1_46) rfl (feq hc17).2 (by decide) (by decide) ?_
                show Steps p.tables e below (s₁.setTop (mkF m 53 #[.val (.int p1)] [])) _
                refine st19 _ ?_
                show Steps p.tables e below (T19.setTop (mkF m 56 #[.val (.int p1)] [(.ref w_USER_REGION)])) _
                jvm_step X19.here [X19.here.top, hx, (hb hby d1_56), X19.method', Bd.returns, Value.isRef, FieldType.isReference]
                first | (intro acts; rw [hr _ acts rfl rfl rfl]) | rw [hr _ _ rfl rfl rfl]
                exact Steps.refl _
              · show Q_rm1 Z p1 w_AMOUNT w_CURRENCY w_MERCHANT_ID w_IP_ADDRESS w_DEVICE_ID w_USER_AGE w_USER_REGION r h0 n0 _ T19.heap _
                rw [e19]
                exact ⟨by rw [← hret]; simp only [pickA, if_neg hc2, if_neg hc5, if_neg hc8, if_neg hc11, if_neg hc14, if_neg hc17], N0, rfl⟩
theorem d9_0 : decode jdk_30_method_1_code 0 = .ok (.aload_n 0, 1) := by decide +kernel
theorem d9_1 : decode jdk_30_method_1_code 1 = .ok (.invokespecial 1, 3) := by decide +kernel
theorem d9_4 : decode jdk_30_method_1_code 4 = .ok (.return_, 1) := by decide +kernel
theorem pn_rmR : plainName "java/lang/Record" = true := by first | (simp [plainName, overriddenIn]; done) | decide +kernel
theorem ef_rmR (m : MethodId) (a1 : Addr) : entryFrame m #[(.ref a1)] 1 = mkF m 0 #[.val (.ref a1)] [] := by first | (simp [entryFrame, mkF, argsToLocals, Value.category]; done) | rfl
def Q_rmR (Z : State) (a1 : Addr) (h0 : Heap) (n0 : Nat) (v : Option Value) (h : Heap) (L : List Loc) : Prop := v = none ∧ Fr n0 L ∧ h = h0
set_option maxRecDepth 65536 in
set_option maxHeartbeats 40000000 in
theorem rmR (l : Launch) (Z : State) (a0 : Array Value) (hw : ∀ d ∈ tables_1, d.before a0 Z = true) (ws : List Jvm.Cond) (a1 : Addr) (h0 : Heap) (n0 : Nat) (Z0 : n0 ≤ h0.size) :
    MetFree l (⟨"java/lang/Record", "<init>", "()V"⟩ : MethodName) (head1 (Jvm.Cond.code (⟨"java/lang/Record", "<init>", "()V"⟩ : MethodName) jdk_30_method_1_code 1 none :: ws) ({ frames := 1, cells := 0, slots := 0, locals := 12 } : Room)) (fun a U => a = #[(.ref a1)] ∧ Z.Warmed39 U.vm ∧ U.heap = h0) (fun _ _ _ _ _ => True) (fun _ U o U' => ∃ v L, o = .returned v ∧ Q_rmR Z a1 h0 n0 v U'.heap L ∧ FrameEnd U o U' L ({ frames := 1, cells := 0, slots := 0, locals := 12 } : Room).cells ({ frames := 1, cells := 0, slots := 0, locals := 12 } : Room).slots) := by
  refine MetFree.of_bodySF (plainFor_of_name pn_rmR) hisR ?_
  intro p e s m args below meth c s₁ Bd hml0 hP hK
  obtain ⟨rfl, hZ, hh⟩ := hP
  have hx := Bd.exec
  have hby := Bd.bytes
  have hml : c.maxLocals = 1 := hml0
  have hown : s.vm.findClass "java/lang/Record" = some m.cls := findClass_of_methodNamed Bd.named
  have hnm := (name_of_methodNamed Bd.named Bd.method).1
  have X0 : Stand p l e ({ frames := 1, cells := 0, slots := 0, locals := 12 } : Room) s m #[(.ref a1)] below meth c s₁ [] 0 0 := Stand.of_body Bd
  have e0 : s₁.heap = h0 := by rw [← hh, Bd.state]; rfl
  have N0 := Fr.nil n0
  have pre0 : ∀ t, Steps p.tables e below (s₁.setTop (mkF m 0 #[.val (.ref a1)] [])) t → Steps p.tables e below (s₁.setTop (entryFrame m #[(.ref a1)] 1)) t := fun t k => castTop (ef_rmR m a1) k
  obtain ⟨T1, X1, e1, st1⟩ := initO X0 hx hZ hown (hw _ (List.mem_of_getElem? (i := 52) rfl)) (hw _ (List.mem_of_getElem? (i := 26) rfl)) (hw _ (List.mem_of_getElem? (i := 27) rfl)) e0 (g := (mkF m 1 #[.val (.ref a1)] [(.ref a1)])) rfl (by rw [hml]; rfl) rfl (hb hby d9_1) (by decide) (W := 0) (by show 2 * 0 + _ ≤ _; exact Nat.le_of_eq rfl) (by decide)
  obtain ⟨fs, hr, hrun, hended, hW, hsame⟩ := X1.leave (v := none) (fun _ => rfl)
  refine ⟨_, _, pre0 _ ?_, hrun, hended, _, _, rfl, ?_, ⟨_, rfl⟩, hW, hsame.mono (by decide) (by decide)⟩
  · show Steps p.tables e below (s₁.setTop (mkF m 0 #[.val (.ref a1)] [])) _
    refine XS.aloadN X0.here hx rfl (hb hby d9_0) rfl rfl ?_
    show Steps p.tables e below (s₁.setTop (mkF m 1 #[.val (.ref a1)] [(.ref a1)])) _
    refine st1 _ ?_
    show Steps p.tables e below (T1.setTop (mkF m 4 #[.val (.ref a1)] [])) _
    exact X1.returnOut hx Bd.returns (hb hby d9_4) hr
  · show Q_rmR Z a1 h0 n0 _ T1.heap _
    rw [e1]
    exact ⟨rfl, N0, rfl⟩
theorem d10_0 : decode jdk_31_method_11_code 0 = .ok (.aload_n 0, 1) := by decide +kernel
theorem d10_1 : decode jdk_31_method_11_code 1 = .ok (.ifnonnull 12, 3) := by decide +kernel
theorem d10_13 : decode jdk_31_method_11_code 13 = .ok (.aload_n 0, 1) := by decide +kernel
theorem d10_14 : decode jdk_31_method_11_code 14 = .ok (.areturn, 1) := by decide +kernel
theorem pn_rmN : plainName "java/util/Objects" = true := by first | (simp [plainName, overriddenIn]; done) | decide +kernel
theorem ef_rmN (m : MethodId) (a1 : Addr) (a2 : Addr) : entryFrame m #[(.ref a1), (.ref a2)] 2 = mkF m 0 #[.val (.ref a1), .val (.ref a2)] [] := by first | (simp [entryFrame, mkF, argsToLocals, Value.category]; done) | rfl
def Q_rmN (Z : State) (a1 : Addr) (a2 : Addr) (h0 : Heap) (n0 : Nat) (v : Option Value) (h : Heap) (L : List Loc) : Prop := v = some (.ref a1) ∧ Fr n0 L ∧ h = h0
set_option maxRecDepth 65536 in
set_option maxHeartbeats 40000000 in
theorem rmN (l : Launch) (Z : State) (a0 : Array Value) (hw : ∀ d ∈ tables_1, d.before a0 Z = true) (ws : List Jvm.Cond) (a1 : Addr) (a2 : Addr) (h0 : Heap) (n0 : Nat) (Z0 : n0 ≤ h0.size) :
    MetFree l (⟨"java/util/Objects", "requireNonNull", "(Ljava/lang/Object;Ljava/lang/String;)Ljava/lang/Object;"⟩ : MethodName) (head1 (Jvm.Cond.code (⟨"java/util/Objects", "requireNonNull", "(Ljava/lang/Object;Ljava/lang/String;)Ljava/lang/Object;"⟩ : MethodName) jdk_31_method_11_code 2 (some (.object "java/lang/Object")) :: ws) ({ frames := 0, cells := 0, slots := 0, locals := 0 } : Room)) (fun a U => a = #[(.ref a1), (.ref a2)] ∧ Z.Warmed39 U.vm ∧ U.heap = h0) (fun _ _ _ _ _ => True) (fun _ U o U' => ∃ v L, o = .returned v ∧ Q_rmN Z a1 a2 h0 n0 v U'.heap L ∧ FrameEnd U o U' L ({ frames := 0, cells := 0, slots := 0, locals := 0 } : Room).cells ({ frames := 0, cells := 0, slots := 0, locals := 0 } : Room).slots) := by
  refine MetFree.of_bodySF (plainFor_of_name pn_rmN) hisR ?_
  intro p e s m args below meth c s₁ Bd hml0 hP hK
  obtain ⟨rfl, hZ, hh⟩ := hP
  have hx := Bd.exec
  have hby := Bd.bytes
  have hml : c.maxLocals = 2 := hml0
  have hown : s.vm.findClass "java/util/Objects" = some m.cls := findClass_of_methodNamed Bd.named
  have hnm := (name_of_methodNamed Bd.named Bd.method).1
  have X0 : Stand p l e ({ frames := 0, cells := 0, slots := 0, locals := 0 } : Room) s m #[(.ref a1), (.ref a2)] below meth c s₁ [] 0 0 := Stand.of_body Bd
  have e0 : s₁.heap = h0 := by rw [← hh, Bd.state]; rfl
  have N0 := Fr.nil n0
  have pre0 : ∀ t, Steps p.tables e below (s₁.setTop (mkF m 0 #[.val (.ref a1), .val (.ref a2)] [])) t → Steps p.tables e below (s₁.setTop (entryFrame m #[(.ref a1), (.ref a2)] 2)) t := fun t k => castTop (ef_rmN m a1 a2) k
  obtain ⟨fs, hr, hrun, hended, hW, hsame⟩ := X0.leave (v := some (.ref a1)) (fun h => by rw [Bd.returns] at h; cases h)
  refine ⟨_, _, pre0 _ ?_, hrun, hended, _, _, rfl, ?_, ⟨_, rfl⟩, hW, hsame.mono (by decide) (by decide)⟩
  · show Steps p.tables e below (s₁.setTop (mkF m 0 #[.val (.ref a1), .val (.ref a2)] [])) _
    refine XS.aloadN X0.here hx rfl (hb hby d10_0) rfl rfl ?_
    show Steps p.tables e below (s₁.setTop (mkF m 1 #[.val (.ref a1), .val (.ref a2)] [(.ref a1)])) _
    refine XS.ifnonnullYes X0.here hx rfl (pc0 := 1) (pc' := 13) rfl (hb hby d10_1) rfl (by decide) (by decide) ?_
    show Steps p.tables e below (s₁.setTop (mkF m 13 #[.val (.ref a1), .val (.ref a2)] [])) _
    refine XS.aloadN X0.here hx rfl (hb hby d10_13) rfl rfl ?_
    show Steps p.tables e below (s₁.setTop (mkF m 14 #[.val (.ref a1), .val (.ref a2)] [(.ref a1)])) _
    jvm_step X0.here [X0.here.top, hx, (hb hby d10_14), X0.method', Bd.returns, Value.isRef, FieldType.isReference]
    first | (intro acts; rw [hr _ acts rfl rfl rfl]) | rw [hr _ _ rfl rfl rfl]
    exact Steps.refl _
  · show Q_rmN Z a1 a2 h0 n0 _ s₁.heap _
    rw [e0]
    exact ⟨rfl, N0, rfl⟩
theorem d8_0 : decode prog_31_method_1_code 0 = .ok (.aload_n 0, 1) := by decide +kernel
theorem d8_1 : decode prog_31_method_1_code 1 = .ok (.invokespecial 1, 3) := by decide +kernel
theorem d8_4 : decode prog_31_method_1_code 4 = .ok (.aload_n 1, 1) := by decide +kernel
theorem d8_5 : decode prog_31_method_1_code 5 = .ok (.ldc 7, 2) := by decide +kernel
theorem d8_7 : decode prog_31_method_1_code 7 = .ok (.invokestatic 9, 3) := by decide +kernel
theorem d8_10 : decode prog_31_method_1_code 10 = .ok (.pop, 1) := by decide +kernel
theorem d8_11 : decode prog_31_method_1_code 11 = .ok (.aload_n 2, 1) := by decide +kernel
theorem d8_12 : decode prog_31_method_1_code 12 = .ok (.ldc 15, 2) := by decide +kernel
theorem d8_14 : decode prog_31_method_1_code 14 = .ok (.invokestatic 9, 3) := by decide +kernel
theorem d8_17 : decode prog_31_method_1_code 17 = .ok (.pop, 1) := by decide +kernel
theorem d8_18 : decode prog_31_method_1_code 18 = .ok (.iload_n 3, 1) := by decide +kernel
theorem d8_19 : decode prog_31_method_1_code 19 = .ok (.ifCond .ge 17, 3) := by decide +kernel
theorem d8_36 : decode prog_31_method_1_code 36 = .ok (.aload_n 0, 1) := by decide +kernel
theorem d8_37 : decode prog_31_method_1_code 37 = .ok (.aload_n 1, 1) := by decide +kernel
theorem d8_38 : decode prog_31_method_1_code 38 = .ok (.putfield 26, 3) := by decide +kernel
theorem d8_41 : decode prog_31_method_1_code 41 = .ok (.aload_n 0, 1) := by decide +kernel
theorem d8_42 : decode prog_31_method_1_code 42 = .ok (.aload_n 2, 1) := by decide +kernel
theorem d8_43 : decode prog_31_method_1_code 43 = .ok (.putfield 31, 3) := by decide +kernel
theorem d8_46 : decode prog_31_method_1_code 46 = .ok (.aload_n 0, 1) := by decide +kernel
theorem d8_47 : decode prog_31_method_1_code 47 = .ok (.iload_n 3, 1) := by decide +kernel
theorem d8_48 : decode prog_31_method_1_code 48 = .ok (.putfield 34, 3) := by decide +kernel
theorem d8_51 : decode prog_31_method_1_code 51 = .ok (.return_, 1) := by decide +kernel
theorem pn_rmT : plainName "com/example/riscontro/riscontro/rules/Token" = true := by first | (simp [plainName, overriddenIn]; done) | decide +kernel
theorem pd_rmT_0 : parseMethodDescriptor "()V" = some ⟨[], none⟩ := by decide +kernel
theorem pd_rmT_1 : parseMethodDescriptor "(Ljava/lang/Object;Ljava/lang/String;)Ljava/lang/Object;" = some ⟨[(.object "java/lang/Object"), (.object "java/lang/String")], some (.object "java/lang/Object")⟩ := by decide +kernel
theorem ef_rmT (m : MethodId) (a1 : Addr) (a2 : Addr) (a3 : Addr) (p4 : Int32) : entryFrame m #[(.ref a1), (.ref a2), (.ref a3), (.int p4)] 4 = mkF m 0 #[.val (.ref a1), .val (.ref a2), .val (.ref a3), .val (.int p4)] [] := by first | (simp [entryFrame, mkF, argsToLocals, Value.category]; done) | rfl
def Q_rmT (Z : State) (a1 : Addr) (a2 : Addr) (a3 : Addr) (p4 : Int32) (h0 : Heap) (n0 : Nat) (v : Option Value) (h : Heap) (L : List Loc) : Prop := v = none ∧ Fr n0 L ∧ Keep h0 h [a1] ∧ Exa Z h a1 "com/example/riscontro/riscontro/rules/Token" ∧ Fld Z h a1 "com/example/riscontro/riscontro/rules/Token" "kind" "Lcom/example/riscontro/riscontro/rules/Token$Kind;" (.ref a2)
set_option maxRecDepth 65536 in
set_option maxHeartbeats 40000000 in
theorem rmT (l : Launch) (Z : State) (a0 : Array Value) (hw : ∀ d ∈ tables_1, d.before a0 Z = true) (ws : List Jvm.Cond) (a1 : Addr) (a2 : Addr) (a3 : Addr) (p4 : Int32) (h0 : Heap) (n0 : Nat) (Z0 : n0 ≤ h0.size) (E_a1 : Exa Z h0 a1 "com/example/riscontro/riscontro/rules/Token") (F_kind : Fld Z h0 a1 "com/example/riscontro/riscontro/rules/Token" "kind" "Lcom/example/riscontro/riscontro/rules/Token$Kind;" .null) (F_text : Fld Z h0 a1 "com/example/riscontro/riscontro/rules/Token" "text" "Ljava/lang/String;" .null) (F_start : Fld Z h0 a1 "com/example/riscontro/riscontro/rules/Token" "start" "I" (.int (0 : Int32))) (g_a1 : n0 ≤ a1) (hp4 : ¬ p4 < (0 : Int32)) :
    MetFree l (⟨"com/example/riscontro/riscontro/rules/Token", "<init>", "(Lcom/example/riscontro/riscontro/rules/Token$Kind;Ljava/lang/String;I)V"⟩ : MethodName) (head1 (Jvm.Cond.code (⟨"com/example/riscontro/riscontro/rules/Token", "<init>", "(Lcom/example/riscontro/riscontro/rules/Token$Kind;Ljava/lang/String;I)V"⟩ : MethodName) prog_31_method_1_code 4 none :: ws) ({ frames := 2, cells := 4, slots := 40, locals := 24 } : Room)) (fun a U => a = #[(.ref a1), (.ref a2), (.ref a3), (.int p4)] ∧ Z.Warmed39 U.vm ∧ U.heap = h0) (fun _ _ _ _ _ => True) (fun _ U o U' => ∃ v L, o = .returned v ∧ Q_rmT Z a1 a2 a3 p4 h0 n0 v U'.heap L ∧ ReturnedEndW U o U' L ({ frames := 2, cells := 4, slots := 40, locals := 24 } : Room).cells ({ frames := 2, cells := 4, slots := 40, locals := 24 } : Room).slots) := by
  refine MetFree.of_bodySF (plainFor_of_name pn_rmT) hisR ?_
  intro p e s m args below meth c s₁ Bd hml0 hP hK
  obtain ⟨rfl, hZ, hh⟩ := hP
  have hx := Bd.exec
  have hby := Bd.bytes
  have hml : c.maxLocals = 4 := hml0
  have hown : s.vm.findClass "com/example/riscontro/riscontro/rules/Token" = some m.cls := findClass_of_methodNamed Bd.named
  have hnm := (name_of_methodNamed Bd.named Bd.method).1
  have X0 : Stand p l e ({ frames := 2, cells := 4, slots := 40, locals := 24 } : Room) s m #[(.ref a1), (.ref a2), (.ref a3), (.int p4)] below meth c s₁ [] 0 0 := Stand.of_body Bd
  have e0 : s₁.heap = h0 := by rw [← hh, Bd.state]; rfl
  have N0 := Fr.nil n0
  have pre0 : ∀ t, Steps p.tables e below (s₁.setTop (mkF m 0 #[.val (.ref a1), .val (.ref a2), .val (.ref a3), .val (.int p4)] [])) t → Steps p.tables e below (s₁.setTop (entryFrame m #[(.ref a1), (.ref a2), (.ref a3), (.int p4)] 4)) t := fun t k => castTop (ef_rmT m a1 a2 a3 p4) k
  have hS0 : s.Since s.vm 0 := (State.WarmedH.refl s).since 0
  have hwsS : ∀ d ∈ Bundle.stringAtoms, d.before a0 Z = true := fun d hd => hw d ((by decide +kernel : ∀ d ∈ Bundle.stringAtoms, d ∈ tables_1) d hd)
  obtain ⟨_, _, ⟨T1, L1, k1, n1⟩, -, X1, ⟨Lc1, hQ1, l1, y1, z1⟩, st1⟩ := X0.specialBack hx (y := (⟨"java/lang/Record", "<init>", "()V"⟩ : MethodName)) rfl hown (mvT hZ (hw _ (List.mem_of_getElem? (i := 47) rfl))) (mvT hZ (hw _ (List.mem_of_getElem? (i := 48) rfl))) (mvT hZ (hw _ (List.mem_of_getElem? (i := 51) rfl))) (by decide) (backOf (W := 0) (rmR l Z a0 hw [] a1 h0 n0 Z0) hZ (hw _ (List.mem_of_getElem? (i := 51) rfl)) (hw _ (List.mem_of_getElem? (i := 50) rfl)) (by decide) (by decide)) (g := (mkF m 1 #[.val (.ref a1), .val (.ref a2), .val (.ref a3), .val (.int p4)] [(.ref a1)])) rfl (by rw [hml]; rfl) (Steps.refl _) (a := a1) (argsL := []) (rest := []) (lenOf pd_rmT_0 rfl) rfl (by show 2 * 0 + _ ≤ _; exact Nat.le_of_eq rfl) (hb hby d8_1) (fun _ _ => ⟨rfl, e0, (by decide : 0 + 0 ≤ _), (by decide : 0 + 0 ≤ _)⟩)
  dsimp only [Pt.U, Pt.locs, Pt.cells, Pt.slots] at X1 l1 y1 z1 st1 hQ1
  subst l1 y1 z1
  obtain ⟨rfl, N1q, e1⟩ := hQ1
  have N1 := Fr.app N0 N1q
  obtain ⟨sa2, T2, h2, kk2, X2, e2, E2, hS2, hk2, hZ2, hown2, st2⟩ := ldcS (s := s) (vm0 := s.vm) X1 hx hZ hown (hw _ (List.mem_of_getElem? (i := 53) rfl)) hwsS e1 hS0 (Nat.zero_le _) (g := (mkF m 5 #[.val (.ref a1), .val (.ref a2), .val (.ref a3), .val (.int p4)] [(.ref a2)])) rfl (hb hby d8_5) (n := 16) (by decide) (by decide) (by decide) (by decide)
  have K2 : Keep h0 h2 [a1] := ((Keep.refl h0 [a1])).ext E2
  obtain ⟨_, _, ⟨T3, L3, k3, n3⟩, -, X3, ⟨Lc3, hQ3, l3, y3, z3⟩, st3⟩ := Jvm.LawKit.callS X2 hx (y := (⟨"java/util/Objects", "requireNonNull", "(Ljava/lang/Object;Ljava/lang/String;)Ljava/lang/Object;"⟩ : MethodName)) hown2 (mvT hZ2 (hw _ (List.mem_of_getElem? (i := 56) rfl))) (mvT hZ2 (hw _ (List.mem_of_getElem? (i := 57) rfl))) (mvT hZ2 (hw _ (List.mem_of_getElem? (i := 58) rfl))) (mvT hZ2 (hw _ (List.mem_of_getElem? (i := 59) rfl))) (by decide) (backOf (W := 0) (rmN l Z a0 hw [] a2 sa2 h2 n0 (Nat.le_trans Z0 K2.1)) hZ2 (hw _ (List.mem_of_getElem? (i := 59) rfl)) (hw _ (List.mem_of_getElem? (i := 58) rfl)) (by decide) (by decide)) (g := (mkF m 7 #[.val (.ref a1), .val (.ref a2), .val (.ref a3), .val (.int p4)] [(.ref sa2), (.ref a2)])) rfl (by rw [hml]; rfl) (argsL := [(.ref a2), (.ref sa2)]) (rest := []) (lenOf pd_rmT_1 rfl) rfl (by show 2 * 0 + _ ≤ _; exact Nat.le_of_eq rfl) (hb hby d8_7) (fun _ _ => ⟨rfl, e2, (by decide : 2 + 0 ≤ _), (by decide : 20 + 0 ≤ _)⟩)
  dsimp only [Pt.U, Pt.locs, Pt.cells, Pt.slots] at X3 l3 y3 z3 st3 hQ3
  subst l3 y3 z3
  obtain ⟨rfl, N3q, e3⟩ := hQ3
  have N3 := Fr.app N1 N3q
  obtain ⟨sa4, T4, h4, kk4, X4, e4, E4, hS4, hk4, hZ4, hown4, st4⟩ := ldcS (s := s) (vm0 := T2.vm) X3 hx hZ2 hown2 (hw _ (List.mem_of_getElem? (i := 60) rfl)) hwsS e3 hS2 hk2 (g := (mkF m 12 #[.val (.ref a1), .val (.ref a2), .val (.ref a3), .val (.int p4)] [(.ref a3)])) rfl (hb hby d8_12) (n := 16) (by decide) (by decide) (by decide) (by decide)
  have K4 : Keep h0 h4 [a1] := (K2).ext E4
  obtain ⟨_, _, ⟨T5, L5, k5, n5⟩, -, X5, ⟨Lc5, hQ5, l5, y5, z5⟩, st5⟩ := Jvm.LawKit.callS X4 hx (y := (⟨"java/util/Objects", "requireNonNull", "(Ljava/lang/Object;Ljava/lang/String;)Ljava/lang/Object;"⟩ : MethodName)) hown4 (mvT hZ4 (hw _ (List.mem_of_getElem? (i := 56) rfl))) (mvT hZ4 (hw _ (List.mem_of_getElem? (i := 57) rfl))) (mvT hZ4 (hw _ (List.mem_of_getElem? (i := 58) rfl))) (mvT hZ4 (hw _ (List.mem_of_getElem? (i := 59) rfl))) (by decide) (backOf (W := 0) (rmN l Z a0 hw [] a3 sa4 h4 n0 (Nat.le_trans Z0 K4.1)) hZ4 (hw _ (List.mem_of_getElem? (i := 59) rfl)) (hw _ (List.mem_of_getElem? (i := 58) rfl)) (by decide) (by decide)) (g := (mkF m 14 #[.val (.ref a1), .val (.ref a2), .val (.ref a3), .val (.int p4)] [(.ref sa4), (.ref a3)])) rfl (by rw [hml]; rfl) (argsL := [(.ref a3), (.ref sa4)]) (rest := []) (lenOf pd_rmT_1 rfl) rfl (by show 2 * 0 + _ ≤ _; exact Nat.le_of_eq rfl) (hb hby d8_14) (fun _ _ => ⟨rfl, e4, (by decide : 4 + 0 ≤ _), (by decide : 40 + 0 ≤ _)⟩)
  dsimp only [Pt.U, Pt.locs, Pt.cells, Pt.slots] at X5 l5 y5 z5 st5 hQ5
  subst l5 y5 z5
  obtain ⟨rfl, N5q, e5⟩ := hQ5
  have N5 := Fr.app N3 N5q
  have f7 := (Exa.ext E4 (Exa.ext E2 E_a1))
  have f8 := (Fld.ext E4 (Fld.ext E2 F_kind))
  obtain ⟨T6, h6, X6, e6, W6, st6⟩ := putF X5 hx hZ4 hown4 (host := "") (Or.inl (hw _ (List.mem_of_getElem? (i := 61) rfl))) Via.refl e5 f8 f7 (Or.inr ⟨(hw _ (List.mem_of_getElem? (i := 62) rfl)), rfl, hnm⟩) (hw _ (List.mem_of_getElem? (i := 13) rfl)) (ty := (.object "com/example/riscontro/riscontro/rules/Token$Kind")) (by decide) rfl rfl (g := (mkF m 38 #[.val (.ref a1), .val (.ref a2), .val (.ref a3), .val (.int p4)] [(.ref a2), (.ref a1)])) rfl rfl (hb hby d8_38)
  have Fw6 : Fld Z h6 a1 "com/example/riscontro/riscontro/rules/Token" "kind" "Lcom/example/riscontro/riscontro/rules/Token$Kind;" (.ref a2) := f8.same W6
  have K6 : Keep h0 h6 [a1] := (K4).wr W6 (Or.inl (List.mem_of_getElem? (i := 0) rfl))
  have N6 := Fr.snoc X6 N5 g_a1
  have f10 := (Exa.wr W6 f7)
  have f11 := (Fld.other W6 (Fld.ext E4 (Fld.ext E2 F_text)) (Or.inr (slot_ne (Or.inr (hw _ (List.mem_of_getElem? (i := 64) rfl))) (Or.inr (hw _ (List.mem_of_getElem? (i := 62) rfl))) (by decide) (t := (.object "java/lang/String")) (t' := (.object "com/example/riscontro/riscontro/rules/Token$Kind")) (by decide) (by decide))))
  obtain ⟨T9, h9, X9, e9, W9, st9⟩ := putF X6 hx hZ4 hown4 (host := "") (Or.inl (hw _ (List.mem_of_getElem? (i := 63) rfl))) Via.refl e6 f11 f10 (Or.inr ⟨(hw _ (List.mem_of_getElem? (i := 64) rfl)), rfl, hnm⟩) (hw _ (List.mem_of_getElem? (i := 13) rfl)) (ty := (.object "java/lang/String")) (by decide) rfl rfl (g := (mkF m 43 #[.val (.ref a1), .val (.ref a2), .val (.ref a3), .val (.int p4)] [(.ref a3), (.ref a1)])) rfl rfl (hb hby d8_43)
  have Fw9 : Fld Z h9 a1 "com/example/riscontro/riscontro/rules/Token" "text" "Ljava/lang/String;" (.ref a3) := f11.same W9
  have K9 : Keep h0 h9 [a1] := (K6).wr W9 (Or.inl (List.mem_of_getElem? (i := 0) rfl))
  have N9 := Fr.snoc X9 N6 g_a1
  have f13 := (Exa.wr W9 f10)
  have f14 := (Fld.other W9 (Fld.other W6 (Fld.ext E4 (Fld.ext E2 F_start)) (Or.inr (slot_ne (Or.inr (hw _ (List.mem_of_getElem? (i := 66) rfl))) (Or.inr (hw _ (List.mem_of_getElem? (i := 62) rfl))) (by decide) (t := .int) (t' := (.object "com/example/riscontro/riscontro/rules/Token$Kind")) (by decide) (by decide)))) (Or.inr (slot_ne (Or.inr (hw _ (List.mem_of_getElem? (i := 66) rfl))) (Or.inr (hw _ (List.mem_of_getElem? (i := 64) rfl))) (by decide) (t := .int) (t' := (.object "java/lang/String")) (by decide) (by decide))))
  obtain ⟨T12, h12, X12, e12, W12, st12⟩ := putF X9 hx hZ4 hown4 (host := "") (Or.inl (hw _ (List.mem_of_getElem? (i := 65) rfl))) Via.refl e9 f14 f13 (Or.inr ⟨(hw _ (List.mem_of_getElem? (i := 66) rfl)), rfl, hnm⟩) (hw _ (List.mem_of_getElem? (i := 13) rfl)) (ty := .int) (by decide) rfl rfl (g := (mkF m 48 #[.val (.ref a1), .val (.ref a2), .val (.ref a3), .val (.int p4)] [(.int p4), (.ref a1)])) rfl rfl (hb hby d8_48)
  have Fw12 : Fld Z h12 a1 "com/example/riscontro/riscontro/rules/Token" "start" "I" (.int p4) := f14.same W12
  have K12 : Keep h0 h12 [a1] := (K9).wr W12 (Or.inl (List.mem_of_getElem? (i := 0) rfl))
  have N12 := Fr.snoc X12 N9 g_a1
  have f15 := (Exa.wr W12 f13)
  have f16 := (Fld.other W12 (Fld.other W9 Fw6 (Or.inr (slot_ne (Or.inr (hw _ (List.mem_of_getElem? (i := 62) rfl))) (Or.inr (hw _ (List.mem_of_getElem? (i := 64) rfl))) (by decide) (t := (.object "com/example/riscontro/riscontro/rules/Token$Kind")) (t' := (.object "java/lang/String")) (by decide) (by decide)))) (Or.inr (slot_ne (Or.inr (hw _ (List.mem_of_getElem? (i := 62) rfl))) (Or.inr (hw _ (List.mem_of_getElem? (i := 66) rfl))) (by decide) (t := (.object "com/example/riscontro/riscontro/rules/Token$Kind")) (t' := .int) (by decide) (by decide))))
  obtain ⟨fs, hr, hrun, hended, hRW⟩ := Jvm.Stand.leaveW (s := s) (vm₁ := T4.vm) X12 hS4 (show _ ≤ T12.heap.size by rw [e12]; exact (Nat.le_trans (Nat.le_trans (Nat.le_trans hk4 (Keep.of_wr W6).1) (Keep.of_wr W9).1) (Keep.of_wr W12).1)) (v := none) (fun _ => rfl)
  refine ⟨_, _, pre0 _ ?_, hrun, hended, _, _, rfl, ?_, hRW.1, hRW.2.1, hRW.2.2.1, hRW.2.2.2.mono (by decide) (by decide)⟩
  · show Steps p.tables e below (s₁.setTop (mkF m 0 #[.val (.ref a1), .val (.ref a2), .val (.ref a3), .val (.int p4)] [])) _
    refine XS.aloadN X0.here hx rfl (hb hby d8_0) rfl rfl ?_
    show Steps p.tables e below (s₁.setTop (mkF m 1 #[.val (.ref a1), .val (.ref a2), .val (.ref a3), .val (.int p4)] [(.ref a1)])) _
    refine st1.trans ?_
    show Steps p.tables e below (T1.setTop (mkF m 4 #[.val (.ref a1), .val (.ref a2), .val (.ref a3), .val (.int p4)] [])) _
    refine XS.aloadN X1.here hx rfl (hb hby d8_4) rfl rfl ?_
    show Steps p.tables e below (T1.setTop (mkF m 5 #[.val (.ref a1), .val (.ref a2), .val (.ref a3), .val (.int p4)] [(.ref a2)])) _
    refine st2 _ ?_
    show Steps p.tables e below (T2.setTop (mkF m 7 #[.val (.ref a1), .val (.ref a2), .val (.ref a3), .val (.int p4)] [(.ref sa2), (.ref a2)])) _
    refine st3 _ ?_
    show Steps p.tables e below (T3.setTop (mkF m 10 #[.val (.ref a1), .val (.ref a2), .val (.ref a3), .val (.int p4)] [(.ref a2)])) _
    refine XS.pop X3.here hx rfl (hb hby d8_10) rfl rfl ?_
    show Steps p.tables e below (T3.setTop (mkF m 11 #[.val (.ref a1), .val (.ref a2), .val (.ref a3), .val (.int p4)] [])) _
    refine XS.aloadN X3.here hx rfl (hb hby d8_11) rfl rfl ?_
    show Steps p.tables e below (T3.setTop (mkF m 12 #[.val (.ref a1), .val (.ref a2), .val (.ref a3), .val (.int p4)] [(.ref a3)])) _
    refine st4 _ ?_
    show Steps p.tables e below (T4.setTop (mkF m 14 #[.val (.ref a1), .val (.ref a2), .val (.ref a3), .val (.int p4)] [(.ref sa4), (.ref a3)])) _
    refine st5 _ ?_
    show Steps p.tables e below (T5.setTop (mkF m 17 #[.val (.ref a1), .val (.ref a2), .val (.ref a3), .val (.int p4)] [(.ref a3)])) _
    refine XS.pop X5.here hx rfl (hb hby d8_17) rfl rfl ?_
    show Steps p.tables e below (T5.setTop (mkF m 18 #[.val (.ref a1), .val (.ref a2), .val (.ref a3), .val (.int p4)] [])) _
    refine XS.iloadN X5.here hx rfl (hb hby d8_18) rfl ?_
    show Steps p.tables e below (T5.setTop (mkF m 19 #[.val (.ref a1), .val (.ref a2), .val (.ref a3), .val (.int p4)] [(.int p4)])) _
    refine XS.ifYes X5.here hx rfl (pc0 := 19) (pc' := 36) rfl (hb hby d8_19) rfl ((if0 _ _).trans (flt hp4).2.1) (by decide) (by decide) ?_
    show Steps p.tables e below (T5.setTop (mkF m 36 #[.val (.ref a1), .val (.ref a2), .val (.ref a3), .val (.int p4)] [])) _
    refine XS.aloadN X5.here hx rfl (hb hby d8_36) rfl rfl ?_
    show Steps p.tables e below (T5.setTop (mkF m 37 #[.val (.ref a1), .val (.ref a2), .val (.ref a3), .val (.int p4)] [(.ref a1)])) _
    refine XS.aloadN X5.here hx rfl (hb hby d8_37) rfl rfl ?_
    show Steps p.tables e below (T5.setTop (mkF m 38 #[.val (.ref a1), .val (.ref a2), .val (.ref a3), .val (.int p4)] [(.ref a2), (.ref a1)])) _
    refine st6 _ ?_
    show Steps p.tables e below (T6.setTop (mkF m 41 #[.val (.ref a1), .val (.ref a2), .val (.ref a3), .val (.int p4)] [])) _
    refine XS.aloadN X6.here hx rfl (hb hby d8_41) rfl rfl ?_
    show Steps p.tables e below (T6.setTop (mkF m 42 #[.val (.ref a1), .val (.ref a2), .val (.ref a3), .val (.int p4)] [(.ref a1)])) _
    refine XS.aloadN X6.here hx rfl (hb hby d8_42) rfl rfl ?_
    show Steps p.tables e below (T6.setTop (mkF m 43 #[.val (.ref a1), .val (.ref a2), .val (.ref a3), .val (.int p4)] [(.ref a3), (.ref a1)])) _
    refine st9 _ ?_
    show Steps p.tables e below (T9.setTop (mkF m 46 #[.val (.ref a1), .val (.ref a2), .val (.ref a3), .val (.int p4)] [])) _
    refine XS.aloadN X9.here hx rfl (hb hby d8_46) rfl rfl ?_
    show Steps p.tables e below (T9.setTop (mkF m 47 #[.val (.ref a1), .val (.ref a2), .val (.ref a3), .val (.int p4)] [(.ref a1)])) _
    refine XS.iloadN X9.here hx rfl (hb hby d8_47) rfl ?_
    show Steps p.tables e below (T9.setTop (mkF m 48 #[.val (.ref a1), .val (.ref a2), .val (.ref a3), .val (.int p4)] [(.int p4), (.ref a1)])) _
    refine st12 _ ?_
    show Steps p.tables e below (T12.setTop (mkF m 51 #[.val (.ref a1), .val (.ref a2), .val (.ref a3), .val (.int p4)] [])) _
    exact X12.returnOut hx Bd.returns (hb hby d8_51) hr
  · show Q_rmT Z a1 a2 a3 p4 h0 n0 _ T12.heap _
    rw [e12]
    exact ⟨rfl, N12, K12, f15, f16⟩
theorem d12_0 : decode prog_31_method_6_code 0 = .ok (.aload_n 0, 1) := by decide +kernel
theorem d12_1 : decode prog_31_method_6_code 1 = .ok (.getfield 26, 3) := by decide +kernel
theorem d12_4 : decode prog_31_method_6_code 4 = .ok (.areturn, 1) := by decide +kernel
theorem pn_rmK : plainName "com/example/riscontro/riscontro/rules/Token" = true := by first | (simp [plainName, overriddenIn]; done) | decide +kernel
theorem ef_rmK (m : MethodId) (a1 : Addr) : entryFrame m #[(.ref a1)] 1 = mkF m 0 #[.val (.ref a1)] [] := by first | (simp [entryFrame, mkF, argsToLocals, Value.category]; done) | rfl
def Q_rmK (Z : State) (a1 : Addr) (kd : Addr) (h0 : Heap) (n0 : Nat) (v : Option Value) (h : Heap) (L : List Loc) : Prop := v = some (.ref kd) ∧ Fr n0 L ∧ h = h0
set_option maxRecDepth 65536 in
set_option maxHeartbeats 40000000 in
theorem rmK (l : Launch) (Z : State) (a0 : Array Value) (hw : ∀ d ∈ tables_1, d.before a0 Z = true) (ws : List Jvm.Cond) (a1 : Addr) (kd : Addr) (h0 : Heap) (n0 : Nat) (Z0 : n0 ≤ h0.size) (F_k : Fld Z h0 a1 "com/example/riscontro/riscontro/rules/Token" "kind" "Lcom/example/riscontro/riscontro/rules/Token$Kind;" (.ref kd)) :
    MetFree l (⟨"com/example/riscontro/riscontro/rules/Token", "kind", "()Lcom/example/riscontro/riscontro/rules/Token$Kind;"⟩ : MethodName) (head1 (Jvm.Cond.code (⟨"com/example/riscontro/riscontro/rules/Token", "kind", "()Lcom/example/riscontro/riscontro/rules/Token$Kind;"⟩ : MethodName) prog_31_method_6_code 1 (some (.object "com/example/riscontro/riscontro/rules/Token$Kind")) :: ws) ({ frames := 0, cells := 0, slots := 0, locals := 0 } : Room)) (fun a U => a = #[(.ref a1)] ∧ Z.Warmed39 U.vm ∧ U.heap = h0) (fun _ _ _ _ _ => True) (fun _ U o U' => ∃ v L, o = .returned v ∧ Q_rmK Z a1 kd h0 n0 v U'.heap L ∧ FrameEnd U o U' L ({ frames := 0, cells := 0, slots := 0, locals := 0 } : Room).cells ({ frames := 0, cells := 0, slots := 0, locals := 0 } : Room).slots) := by
  refine MetFree.of_bodySF (plainFor_of_name pn_rmK) hisR ?_
  intro p e s m args below meth c s₁ Bd hml0 hP hK
  obtain ⟨rfl, hZ, hh⟩ := hP
  have hx := Bd.exec
  have hby := Bd.bytes
  have hml : c.maxLocals = 1 := hml0
  have hown : s.vm.findClass "com/example/riscontro/riscontro/rules/Token" = some m.cls := findClass_of_methodNamed Bd.named
  have hnm := (name_of_methodNamed Bd.named Bd.method).1
  have X0 : Stand p l e ({ frames := 0, cells := 0, slots := 0, locals := 0 } : Room) s m #[(.ref a1)] below meth c s₁ [] 0 0 := Stand.of_body Bd
  have e0 : s₁.heap = h0 := by rw [← hh, Bd.state]; rfl
  have N0 := Fr.nil n0
  have pre0 : ∀ t, Steps p.tables e below (s₁.setTop (mkF m 0 #[.val (.ref a1)] [])) t → Steps p.tables e below (s₁.setTop (entryFrame m #[(.ref a1)] 1)) t := fun t k => castTop (ef_rmK m a1) k
  obtain ⟨T1, X1, e1, st1⟩ := getF X0 hx hZ hown (host := "") (Or.inl (hw _ (List.mem_of_getElem? (i := 61) rfl))) Via.refl e0 F_k (g := (mkF m 1 #[.val (.ref a1)] [(.ref a1)])) rfl rfl (hb hby d12_1)
  obtain ⟨fs, hr, hrun, hended, hW, hsame⟩ := X1.leave (v := some (.ref kd)) (fun h => by rw [Bd.returns] at h; cases h)
  refine ⟨_, _, pre0 _ ?_, hrun, hended, _, _, rfl, ?_, ⟨_, rfl⟩, hW, hsame.mono (by decide) (by decide)⟩
  · show Steps p.tables e below (s₁.setTop (mkF m 0 #[.val (.ref a1)] [])) _
    refine XS.aloadN X0.here hx rfl (hb hby d12_0) rfl rfl ?_
    show Steps p.tables e below (s₁.setTop (mkF m 1 #[.val (.ref a1)] [(.ref a1)])) _
    refine st1 _ ?_
    show Steps p.tables e below (T1.setTop (mkF m 4 #[.val (.ref a1)] [(.ref kd)])) _
    jvm_step X1.here [X1.here.top, hx, (hb hby d12_4), X1.method', Bd.returns, Value.isRef, FieldType.isReference]
    first | (intro acts; rw [hr _ acts rfl rfl rfl]) | rw [hr _ _ rfl rfl rfl]
    exact Steps.refl _
  · show Q_rmK Z a1 kd h0 n0 _ T1.heap _
    rw [e1]
    exact ⟨rfl, N0, rfl⟩
theorem d11_0 : decode prog_18_method_7_code 0 = .ok (.aload_n 1, 1) := by decide +kernel
theorem d11_1 : decode prog_18_method_7_code 1 = .ok (.invokevirtual 77, 3) := by decide +kernel
theorem d11_4 : decode prog_18_method_7_code 4 = .ok (.aload_n 0, 1) := by decide +kernel
theorem d11_5 : decode prog_18_method_7_code 5 = .ok (.getfield 48, 3) := by decide +kernel
theorem d11_8 : decode prog_18_method_7_code 8 = .ok (.if_acmp .ne 7, 3) := by decide +kernel
theorem d11_11 : decode prog_18_method_7_code 11 = .ok (.iconst 1, 1) := by decide +kernel
theorem d11_12 : decode prog_18_method_7_code 12 = .ok (.goto 4, 3) := by decide +kernel
theorem d11_15 : decode prog_18_method_7_code 15 = .ok (.iconst 0, 1) := by decide +kernel
theorem d11_16 : decode prog_18_method_7_code 16 = .ok (.ireturn, 1) := by decide +kernel
theorem pn_rmX : plainName "com/example/riscontro/riscontro/rules/Field" = true := by first | (simp [plainName, overriddenIn]; done) | decide +kernel
theorem pd_rmX_0 : parseMethodDescriptor "()Lcom/example/riscontro/riscontro/rules/Token$Kind;" = some ⟨[], some (.object "com/example/riscontro/riscontro/rules/Token$Kind")⟩ := by decide +kernel
theorem ef_rmX (m : MethodId) (a1 : Addr) (a2 : Addr) : entryFrame m #[(.ref a1), (.ref a2)] 2 = mkF m 0 #[.val (.ref a1), .val (.ref a2)] [] := by first | (simp [entryFrame, mkF, argsToLocals, Value.category]; done) | rfl
def Q_rmX (Z : State) (a1 : Addr) (a2 : Addr) (vk : Addr) (kd : Addr) (r : Int32) (h0 : Heap) (n0 : Nat) (v : Option Value) (h : Heap) (L : List Loc) : Prop := v = some (.int r) ∧ Fr n0 L ∧ h = h0
set_option maxRecDepth 65536 in
set_option maxHeartbeats 40000000 in
theorem rmX (l : Launch) (Z : State) (a0 : Array Value) (hw : ∀ d ∈ tables_1, d.before a0 Z = true) (ws : List Jvm.Cond) (a1 : Addr) (a2 : Addr) (vk : Addr) (kd : Addr) (r : Int32) (h0 : Heap) (n0 : Nat) (Z0 : n0 ≤ h0.size) (F_v : Fld Z h0 a1 "com/example/riscontro/riscontro/rules/Field" "valueKind" "Lcom/example/riscontro/riscontro/rules/Token$Kind;" (.ref vk)) (F_k : Fld Z h0 a2 "com/example/riscontro/riscontro/rules/Token" "kind" "Lcom/example/riscontro/riscontro/rules/Token$Kind;" (.ref kd)) (E_a2 : Exa Z h0 a2 "com/example/riscontro/riscontro/rules/Token") (hret : (if kd = vk then (1 : Int32) else (0 : Int32)) = r) :
    MetFree l (⟨"com/example/riscontro/riscontro/rules/Field", "takes", "(Lcom/example/riscontro/riscontro/rules/Token;)Z"⟩ : MethodName) (head1 (Jvm.Cond.code (⟨"com/example/riscontro/riscontro/rules/Field", "takes", "(Lcom/example/riscontro/riscontro/rules/Token;)Z"⟩ : MethodName) prog_18_method_7_code 2 (some .boolean) :: ws) ({ frames := 1, cells := 0, slots := 0, locals := 12 } : Room)) (fun a U => a = #[(.ref a1), (.ref a2)] ∧ Z.Warmed39 U.vm ∧ U.heap = h0) (fun _ _ _ _ _ => True) (fun _ U o U' => ∃ v L, o = .returned v ∧ Q_rmX Z a1 a2 vk kd r h0 n0 v U'.heap L ∧ FrameEnd U o U' L ({ frames := 1, cells := 0, slots := 0, locals := 12 } : Room).cells ({ frames := 1, cells := 0, slots := 0, locals := 12 } : Room).slots) := by
  refine MetFree.of_bodySF (plainFor_of_name pn_rmX) hisR ?_
  intro p e s m args below meth c s₁ Bd hml0 hP hK
  obtain ⟨rfl, hZ, hh⟩ := hP
  have hx := Bd.exec
  have hby := Bd.bytes
  have hml : c.maxLocals = 2 := hml0
  have hown : s.vm.findClass "com/example/riscontro/riscontro/rules/Field" = some m.cls := findClass_of_methodNamed Bd.named
  have hnm := (name_of_methodNamed Bd.named Bd.method).1
  have X0 : Stand p l e ({ frames := 1, cells := 0, slots := 0, locals := 12 } : Room) s m #[(.ref a1), (.ref a2)] below meth c s₁ [] 0 0 := Stand.of_body Bd
  have e0 : s₁.heap = h0 := by rw [← hh, Bd.state]; rfl
  have N0 := Fr.nil n0
  have pre0 : ∀ t, Steps p.tables e below (s₁.setTop (mkF m 0 #[.val (.ref a1), .val (.ref a2)] [])) t → Steps p.tables e below (s₁.setTop (entryFrame m #[(.ref a1), (.ref a2)] 2)) t := fun t k => castTop (ef_rmX m a1 a2) k
  obtain ⟨cq1, kq1, q1a, q1b, q1c⟩ := isOf hZ e0 E_a2
  obtain ⟨_, _, ⟨T1, L1, k1, n1⟩, -, X1, ⟨Lc1, hQ1, l1, y1, z1⟩, st1⟩ := X0.virtualBack hx (y := (⟨"com/example/riscontro/riscontro/rules/Token", "kind", "()Lcom/example/riscontro/riscontro/rules/Token$Kind;"⟩ : MethodName)) (z := (⟨"com/example/riscontro/riscontro/rules/Token", "kind", "()Lcom/example/riscontro/riscontro/rules/Token$Kind;"⟩ : MethodName)) hown (mvT hZ (hw _ (List.mem_of_getElem? (i := 72) rfl))) (mvT hZ (hw _ (List.mem_of_getElem? (i := 73) rfl))) (notFace_of_selects (args := #[]) (mvT hZ (hw _ (List.mem_of_getElem? (i := 75) rfl)))) (mvT hZ (hw _ (List.mem_of_getElem? (i := 75) rfl))) (mvT hZ (hw _ (List.mem_of_getElem? (i := 74) rfl))) (by decide) (backOf (W := 0) (rmK l Z a0 hw [] a2 kd h0 n0 Z0 F_k) hZ (hw _ (List.mem_of_getElem? (i := 76) rfl)) (hw _ (List.mem_of_getElem? (i := 14) rfl)) (by decide) (by decide)) q1a q1c (g := (mkF m 1 #[.val (.ref a1), .val (.ref a2)] [(.ref a2)])) rfl (by rw [hml]; rfl) (Steps.refl _) (argsL := []) (rest := []) (lenOf pd_rmX_0 rfl) rfl (by show 2 * 0 + _ ≤ _; exact Nat.le_of_eq rfl) (hb hby d11_1) (fun _ _ => ⟨rfl, e0, (by decide : 0 + 0 ≤ _), (by decide : 0 + 0 ≤ _)⟩)
  dsimp only [Pt.U, Pt.locs, Pt.cells, Pt.slots] at X1 l1 y1 z1 st1 hQ1
  subst l1 y1 z1
  obtain ⟨rfl, N1q, e1⟩ := hQ1
  have N1 := Fr.app N0 N1q
  obtain ⟨T2, X2, e2, st2⟩ := getF X1 hx hZ hown (host := "") (Or.inl (hw _ (List.mem_of_getElem? (i := 77) rfl))) Via.refl e1 F_v (g := (mkF m 5 #[.val (.ref a1), .val (.ref a2)] [(.ref a1), (.ref kd)])) rfl rfl (hb hby d11_5)
  have pre3 : ∀ t, Steps p.tables e below (T2.setTop (mkF m 8 #[.val (.ref a1), .val (.ref a2)] [(.ref vk), (.ref kd)])) t → Steps p.tables e below (s₁.setTop (entryFrame m #[(.ref a1), (.ref a2)] 2)) t := fun t k => pre0 t (by
      show Steps p.tables e below (s₁.setTop (mkF m 0 #[.val (.ref a1), .val (.ref a2)] [])) _
      refine XS.aloadN X0.here hx rfl (hb hby d11_0) rfl rfl ?_
      show Steps p.tables e below (s₁.setTop (mkF m 1 #[.val (.ref a1), .val (.ref a2)] [(.ref a2)])) _
      refine st1.trans ?_
      show Steps p.tables e below (T1.setTop (mkF m 4 #[.val (.ref a1), .val (.ref a2)] [(.ref kd)])) _
      refine XS.aloadN X1.here hx rfl (hb hby d11_4) rfl rfl ?_
      show Steps p.tables e below (T1.setTop (mkF m 5 #[.val (.ref a1), .val (.ref a2)] [(.ref a1), (.ref kd)])) _
      refine st2 _ ?_
      exact k)
  by_cases hc4 : kd = vk
  · obtain ⟨fs, hr, hrun, hended, hW, hsame⟩ := X2.leave (v := some (.int (1 : Int32))) (fun h => by rw [Bd.returns] at h; cases h)
    refine ⟨_, _, pre3 _ ?_, hrun, hended, _, _, rfl, ?_, ⟨_, rfl⟩, hW, hsame.mono (by decide) (by decide)⟩
    · show Steps p.tables e below (T2.setTop (mkF m 8 #[.val (.ref a1), .val (.ref a2)] [(.ref vk), (.ref kd)])) _
      refine Jvm.RoadKit.acmp (g := (mkF m 8 #[.val (.ref a1), .val (.ref a2)] [(.ref vk), (.ref kd)])) X2 hx rfl rfl rfl (pc0 := 8) (pc' := 11) (same := true) rfl (hb hby d11_8) rfl (decide_eq_true (congrArg Value.ref hc4)) (by decide) (by decide) ?_
      show Steps p.tables e below (T2.setTop (mkF m 11 #[.val (.ref a1), .val (.ref a2)] [])) _
      refine XS.iconst X2.here hx rfl (hb hby d11_11) ?_
      show Steps p.tables e below (T2.setTop (mkF m 12 #[.val (.ref a1), .val (.ref a2)] [(.int (1 : Int32))])) _
      refine XS.goto X2.here hx rfl (pc0 := 12) (pc' := 16) rfl (hb hby d11_12) (by decide) (by decide) ?_
      show Steps p.tables e below (T2.setTop (mkF m 16 #[.val (.ref a1), .val (.ref a2)] [(.int (1 : Int32))])) _
      exact retN X2 hx (t := .boolean) Bd.returns (by simp) (hb hby d11_16) hr
    · show Q_rmX Z a1 a2 vk kd r h0 n0 _ T2.heap _
      rw [e2]
      exact ⟨by rw [← hret]; simp only [if_pos hc4], N1, rfl⟩
  · obtain ⟨fs, hr, hrun, hended, hW, hsame⟩ := X2.leave (v := some (.int (0 : Int32))) (fun h => by rw [Bd.returns] at h; cases h)
    refine ⟨_, _, pre3 _ ?_, hrun, hended, _, _, rfl, ?_, ⟨_, rfl⟩, hW, hsame.mono (by decide) (by decide)⟩
    · show Steps p.tables e below (T2.setTop (mkF m 8 #[.val (.ref a1), .val (.ref a2)] [(.ref vk), (.ref kd)])) _
      refine Jvm.RoadKit.acmp (g := (mkF m 8 #[.val (.ref a1), .val (.ref a2)] [(.ref vk), (.ref kd)])) X2 hx rfl rfl rfl (pc0 := 8) (pc' := 15) (same := false) rfl (hb hby d11_8) rfl (decide_eq_false fun q => hc4 (Value.ref.inj q)) (by decide) (by decide) ?_
      show Steps p.tables e below (T2.setTop (mkF m 15 #[.val (.ref a1), .val (.ref a2)] [])) _
      refine XS.iconst X2.here hx rfl (hb hby d11_15) ?_
      show Steps p.tables e below (T2.setTop (mkF m 16 #[.val (.ref a1), .val (.ref a2)] [(.int (0 : Int32))])) _
      exact retN X2 hx (t := .boolean) Bd.returns (by simp) (hb hby d11_16) hr
    · show Q_rmX Z a1 a2 vk kd r h0 n0 _ T2.heap _
      rw [e2]
      exact ⟨by rw [← hret]; simp only [if_neg hc4], N1, rfl⟩
theorem pn_rm0 : plainName "com/example/riscontro/riscontro/rules/FieldTakesPinLaw" = true := by first | (simp [plainName, overriddenIn]; done) | decide +kernel
theorem pd_rm0_0 : parseMethodDescriptor "(I)Lcom/example/riscontro/riscontro/rules/Field;" = some ⟨[.int], some (.object "com/example/riscontro/riscontro/rules/Field")⟩ := by decide +kernel
theorem pd_rm0_1 : parseMethodDescriptor "([C)V" = some ⟨[(.array .char)], none⟩ := by decide +kernel
theorem pd_rm0_2 : parseMethodDescriptor "(Lcom/example/riscontro/riscontro/rules/Token$Kind;Ljava/lang/String;I)V" = some ⟨[(.object "com/example/riscontro/riscontro/rules/Token$Kind"), (.object "java/lang/String"), .int], none⟩ := by decide +kernel
theorem pd_rm0_3 : parseMethodDescriptor "(Lcom/example/riscontro/riscontro/rules/Token;)Z" = some ⟨[(.object "com/example/riscontro/riscontro/rules/Token")], some .boolean⟩ := by decide +kernel
theorem ef_rm0 (m : MethodId) (p1 : Int32) (p2 : Int32) (p3 : Int32) (p4 : Int32) : entryFrame m #[(.int p1), (.int p2), (.int p3), (.int p4)] maxLocals = mkF m 0 #[.val (.int p1), .val (.int p2), .val (.int p3), .val (.int p4), .unset, .unset, .unset, .unset, .unset, .unset, .unset, .unset] [] := by first | (simp [entryFrame, mkF, argsToLocals, Value.category, maxLocals]; done) | rfl
def Q_rm0 (Z : State) (p1 : Int32) (p2 : Int32) (p3 : Int32) (p4 : Int32) (w_AMOUNT : Addr) (w_CURRENCY : Addr) (w_MERCHANT_ID : Addr) (w_IP_ADDRESS : Addr) (w_DEVICE_ID : Addr) (w_USER_AGE : Addr) (w_USER_REGION : Addr) (wN : Addr) (wS : Addr) (zc : Int32) (h0 : Heap) (n0 : Nat) (v : Option Value) (h : Heap) (L : List Loc) : Prop := v = some (.int (1 : Int32)) ∧ Fr n0 L
set_option maxRecDepth 65536 in
set_option maxHeartbeats 40000000 in
theorem rm0 (l : Launch) (Z : State) (a0 : Array Value) (hw : ∀ d ∈ tables_1, d.before a0 Z = true) (ws : List Jvm.Cond) (p1 : Int32) (p2 : Int32) (p3 : Int32) (p4 : Int32) (w_AMOUNT : Addr) (w_CURRENCY : Addr) (w_MERCHANT_ID : Addr) (w_IP_ADDRESS : Addr) (w_DEVICE_ID : Addr) (w_USER_AGE : Addr) (w_USER_REGION : Addr) (wN : Addr) (wS : Addr) (zc : Int32) (h0 : Heap) (n0 : Nat) (Z0 : n0 ≤ h0.size) (S_AMOUNT : Sta Z h0 "com/example/riscontro/riscontro/rules/Field" "AMOUNT" "Lcom/example/riscontro/riscontro/rules/Field;" (.ref w_AMOUNT)) (S_CURRENCY : Sta Z h0 "com/example/riscontro/riscontro/rules/Field" "CURRENCY" "Lcom/example/riscontro/riscontro/rules/Field;" (.ref w_CURRENCY)) (S_MERCHANT_ID : Sta Z h0 "com/example/riscontro/riscontro/rules/Field" "MERCHANT_ID" "Lcom/example/riscontro/riscontro/rules/Field;" (.ref w_MERCHANT_ID)) (S_IP_ADDRESS : Sta Z h0 "com/example/riscontro/riscontro/rules/Field" "IP_ADDRESS" "Lcom/example/riscontro/riscontro/rules/Field;" (.ref w_IP_ADDRESS)) (S_DEVICE_ID : Sta Z h0 "com/example/riscontro/riscontro/rules/Field" "DEVICE_ID" "Lcom/example/riscontro/riscontro/rules/Field;" (.ref w_DEVICE_ID)) (S_USER_AGE : Sta Z h0 "com/example/riscontro/riscontro/rules/Field" "USER_AGE" "Lcom/example/riscontro/riscontro/rules/Field;" (.ref w_USER_AGE)) (S_USER_REGION : Sta Z h0 "com/example/riscontro/riscontro/rules/Field" "USER_REGION" "Lcom/example/riscontro/riscontro/rules/Field;" (.ref w_USER_REGION)) (S_NUMBER : Sta Z h0 "com/example/riscontro/riscontro/rules/Token$Kind" "NUMBER" "Lcom/example/riscontro/riscontro/rules/Token$Kind;" (.ref wN)) (S_STRING : Sta Z h0 "com/example/riscontro/riscontro/rules/Token$Kind" "STRING" "Lcom/example/riscontro/riscontro/rules/Token$Kind;" (.ref wS)) (E_AMOUNT : Exa Z h0 w_AMOUNT "com/example/riscontro/riscontro/rules/Field") (E_CURRENCY : Exa Z h0 w_CURRENCY "com/example/riscontro/riscontro/rules/Field") (E_MERCHANT_ID : Exa Z h0 w_MERCHANT_ID "com/example/riscontro/riscontro/rules/Field") (E_IP_ADDRESS : Exa Z h0 w_IP_ADDRESS "com/example/riscontro/riscontro/rules/Field") (E_DEVICE_ID : Exa Z h0 w_DEVICE_ID "com/example/riscontro/riscontro/rules/Field") (E_USER_AGE : Exa Z h0 w_USER_AGE "com/example/riscontro/riscontro/rules/Field") (E_USER_REGION : Exa Z h0 w_USER_REGION "com/example/riscontro/riscontro/rules/Field") (V_AMOUNT : Fld Z h0 w_AMOUNT "com/example/riscontro/riscontro/rules/Field" "valueKind" "Lcom/example/riscontro/riscontro/rules/Token$Kind;" (.ref wN)) (V_CURRENCY : Fld Z h0 w_CURRENCY "com/example/riscontro/riscontro/rules/Field" "valueKind" "Lcom/example/riscontro/riscontro/rules/Token$Kind;" (.ref wS)) (V_MERCHANT_ID : Fld Z h0 w_MERCHANT_ID "com/example/riscontro/riscontro/rules/Field" "valueKind" "Lcom/example/riscontro/riscontro/rules/Token$Kind;" (.ref wS)) (V_IP_ADDRESS : Fld Z h0 w_IP_ADDRESS "com/example/riscontro/riscontro/rules/Field" "valueKind" "Lcom/example/riscontro/riscontro/rules/Token$Kind;" (.ref wS)) (V_DEVICE_ID : Fld Z h0 w_DEVICE_ID "com/example/riscontro/riscontro/rules/Field" "valueKind" "Lcom/example/riscontro/riscontro/rules/Token$Kind;" (.ref wS)) (V_USER_AGE : Fld Z h0 w_USER_AGE "com/example/riscontro/riscontro/rules/Field" "valueKind" "Lcom/example/riscontro/riscontro/rules/Token$Kind;" (.ref wN)) (V_USER_REGION : Fld Z h0 w_USER_REGION "com/example/riscontro/riscontro/rules/Field" "valueKind" "Lcom/example/riscontro/riscontro/rules/Token$Kind;" (.ref wS)) (hNS : ¬ wN = wS) (hSN : ¬ wS = wN) (S_C : Sta Z h0 "java/lang/String" "COMPACT_STRINGS" "Z" (.int zc)) (hzc : ¬ zc = 0) :
    MetFree l x (head1 (Jvm.Cond.code x code maxLocals ret :: ws) room_1) (fun a U => a = #[(.int p1), (.int p2), (.int p3), (.int p4)] ∧ Z.Warmed39 U.vm ∧ U.heap = h0) (fun _ _ _ _ _ => True) (fun _ U o U' => ∃ v L, o = .returned v ∧ Q_rm0 Z p1 p2 p3 p4 w_AMOUNT w_CURRENCY w_MERCHANT_ID w_IP_ADDRESS w_DEVICE_ID w_USER_AGE w_USER_REGION wN wS zc h0 n0 v U'.heap L ∧ ReturnedEndW U o U' L room_1.cells room_1.slots) := by
  refine MetFree.of_bodySF (plainFor_of_name pn_rm0) hisR ?_
  intro p e s m args below meth c s₁ Bd hml0 hP hK
  obtain ⟨rfl, hZ, hh⟩ := hP
  have hx := Bd.exec
  have hby := Bd.bytes
  have hml : c.maxLocals = 12 := hml0
  have hown : s.vm.findClass "com/example/riscontro/riscontro/rules/FieldTakesPinLaw" = some m.cls := findClass_of_methodNamed Bd.named
  have hnm := (name_of_methodNamed Bd.named Bd.method).1
  have X0 : Stand p l e room_1 s m #[(.int p1), (.int p2), (.int p3), (.int p4)] below meth c s₁ [] 0 0 := Stand.of_body Bd
  have e0 : s₁.heap = h0 := by rw [← hh, Bd.state]; rfl
  have N0 := Fr.nil n0
  have pre0 : ∀ t, Steps p.tables e below (s₁.setTop (mkF m 0 #[.val (.int p1), .val (.int p2), .val (.int p3), .val (.int p4), .unset, .unset, .unset, .unset, .unset, .unset, .unset, .unset] [])) t → Steps p.tables e below (s₁.setTop (entryFrame m #[(.int p1), (.int p2), (.int p3), (.int p4)] maxLocals)) t := fun t k => castTop (ef_rm0 m p1 p2 p3 p4) k
  have hS0 : s.Since s.vm 0 := (State.WarmedH.refl s).since 0
  have pre1 : ∀ t, Steps p.tables e below (s₁.setTop (mkF m 7 #[.val (.int p1), .val (.int p2), .val (.int p3), .val (.int p4), .unset, .unset, .unset, .unset, .unset, .unset, .unset, .unset] [(.int ((p1 &&& (2147483647 : Int32)) % (7 : Int32)))])) t → Steps p.tables e below (s₁.setTop (entryFrame m #[(.int p1), (.int p2), (.int p3), (.int p4)] maxLocals)) t := fun t k => pre0 t (by
      show Steps p.tables e below (s₁.setTop (mkF m 0 #[.val (.int p1), .val (.int p2), .val (.int p3), .val (.int p4), .unset, .unset, .unset, .unset, .unset, .unset, .unset, .unset] [])) _
      refine XS.iloadN X0.here hx rfl (hb hby at_0) rfl ?_
      show Steps p.tables e below (s₁.setTop (mkF m 1 #[.val (.int p1), .val (.int p2), .val (.int p3), .val (.int p4), .unset, .unset, .unset, .unset, .unset, .unset, .unset, .unset] [(.int p1)])) _
      refine X0.ldcInt hx hown (mvT hZ (hw _ (List.mem_of_getElem? (i := 0) rfl))) (g := (mkF m 1 #[.val (.int p1), .val (.int p2), .val (.int p3), .val (.int p4), .unset, .unset, .unset, .unset, .unset, .unset, .unset, .unset] [(.int p1)])) rfl (hb hby at_1) _ ?_
      show Steps p.tables e below (s₁.setTop (mkF m 3 #[.val (.int p1), .val (.int p2), .val (.int p3), .val (.int p4), .unset, .unset, .unset, .unset, .unset, .unset, .unset, .unset] [(.int (2147483647 : Int32)), (.int p1)])) _
      refine XS.iand X0.here hx rfl (hb hby at_3) rfl ?_
      show Steps p.tables e below (s₁.setTop (mkF m 4 #[.val (.int p1), .val (.int p2), .val (.int p3), .val (.int p4), .unset, .unset, .unset, .unset, .unset, .unset, .unset, .unset] [(.int (p1 &&& (2147483647 : Int32)))])) _
      refine XS.bipush X0.here hx rfl (hb hby at_4) ?_
      show Steps p.tables e below (s₁.setTop (mkF m 6 #[.val (.int p1), .val (.int p2), .val (.int p3), .val (.int p4), .unset, .unset, .unset, .unset, .unset, .unset, .unset, .unset] [(.int (7 : Int32)), (.int (p1 &&& (2147483647 : Int32)))])) _
      refine Jvm.RoadKit.iremM (g := (mkF m 6 #[.val (.int p1), .val (.int p2), .val (.int p3), .val (.int p4), .unset, .unset, .unset, .unset, .unset, .unset, .unset, .unset] [(.int (7 : Int32)), (.int (p1 &&& (2147483647 : Int32)))])) X0 hx rfl (hb hby at_6) rfl (by decide) ?_
      exact k)
  have hbnd := own_rem p1 (7 : Int32) 7 rfl (by decide)
  rcases own_cases7 hbnd.1 hbnd.2 with hk | hk | hk | hk | hk | hk | hk
  · have pre2 : ∀ t, Steps p.tables e below (s₁.setTop (mkF m 7 #[.val (.int p1), .val (.int p2), .val (.int p3), .val (.int p4), .unset, .unset, .unset, .unset, .unset, .unset, .unset, .unset] [(.int (0 : Int32))])) t → Steps p.tables e below (s₁.setTop (entryFrame m #[(.int p1), (.int p2), (.int p3), (.int p4)] maxLocals)) t := fun t k => pre1 t (by rw [hk]; exact k)
    obtain ⟨_, _, ⟨T3, L3, k3, n3⟩, -, X3, ⟨Lc3, hQ3, l3, y3, z3⟩, st3⟩ := Jvm.LawKit.callS X0 hx (y := (⟨"com/example/riscontro/riscontro/rules/FieldTakesPinLaw", "pick", "(I)Lcom/example/riscontro/riscontro/rules/Field;"⟩ : MethodName)) hown (mvT hZ (hw _ (List.mem_of_getElem? (i := 1) rfl))) (mvT hZ (hw _ (List.mem_of_getElem? (i := 2) rfl))) (mvT hZ (hw _ (List.mem_of_getElem? (i := 3) rfl))) (mvT hZ (hw _ (List.mem_of_getElem? (i := 4) rfl))) (by decide) (backOf (W := 0) (rm1 l Z a0 hw [] (0 : Int32) w_AMOUNT w_CURRENCY w_MERCHANT_ID w_IP_ADDRESS w_DEVICE_ID w_USER_AGE w_USER_REGION w_AMOUNT h0 n0 Z0 S_AMOUNT S_CURRENCY S_MERCHANT_ID S_IP_ADDRESS S_DEVICE_ID S_USER_AGE S_USER_REGION rfl) hZ (hw _ (List.mem_of_getElem? (i := 4) rfl)) (hw _ (List.mem_of_getElem? (i := 3) rfl)) (by decide) (by decide)) (g := (mkF m 11 #[.val (.int p1), .val (.int p2), .val (.int p3), .val (.int p4), .val (.int (0 : Int32)), .unset, .unset, .unset, .unset, .unset, .unset, .unset] [(.int (0 : Int32))])) rfl (by rw [hml]; rfl) (argsL := [(.int (0 : Int32))]) (rest := []) (lenOf pd_rm0_0 rfl) rfl (by show 2 * 0 + _ ≤ _; exact Nat.le_of_eq rfl) (hb hby at_11) (fun _ _ => ⟨rfl, e0, (by decide : 0 + 0 ≤ _), (by decide : 0 + 0 ≤ _)⟩)
    dsimp only [Pt.U, Pt.locs, Pt.cells, Pt.slots] at X3 l3 y3 z3 st3 hQ3
    subst l3 y3 z3
    obtain ⟨rfl, N3q, e3⟩ := hQ3
    have N3 := Fr.app N0 N3q
    have pre4 : ∀ t, Steps p.tables e below (T3.setTop (mkF m 19 #[.val (.int p1), .val (.int p2), .val (.int p3), .val (.int p4), .val (.int (0 : Int32)), .val (.ref w_AMOUNT), .unset, .unset, .unset, .unset, .unset, .unset] [(.int (p2 &&& (1 : Int32)))])) t → Steps p.tables e below (s₁.setTop (entryFrame m #[(.int p1), (.int p2), (.int p3), (.int p4)] maxLocals)) t := fun t k => pre2 t (by
        show Steps p.tables e below (s₁.setTop (mkF m 7 #[.val (.int p1), .val (.int p2), .val (.int p3), .val (.int p4), .unset, .unset, .unset, .unset, .unset, .unset, .unset, .unset] [(.int (0 : Int32))])) _
        refine XS.istore X0.here hx rfl (hb hby at_7) rfl (l' := #[.val (.int p1), .val (.int p2), .val (.int p3), .val (.int p4), .val (.int (0 : Int32)), .unset, .unset, .unset, .unset, .unset, .unset, .unset]) rfl ?_
        show Steps p.tables e below (s₁.setTop (mkF m 9 #[.val (.int p1), .val (.int p2), .val (.int p3), .val (.int p4), .val (.int (0 : Int32)), .unset, .unset, .unset, .unset, .unset, .unset, .unset] [])) _
        refine XS.iload X0.here hx rfl (hb hby at_9) rfl ?_
        show Steps p.tables e below (s₁.setTop (mkF m 11 #[.val (.int p1), .val (.int p2), .val (.int p3), .val (.int p4), .val (.int (0 : Int32)), .unset, .unset, .unset, .unset, .unset, .unset, .unset] [(.int (0 : Int32))])) _
        refine st3 _ ?_
        show Steps p.tables e below (T3.setTop (mkF m 14 #[.val (.int p1), .val (.int p2), .val (.int p3), .val (.int p4), .val (.int (0 : Int32)), .unset, .unset, .unset, .unset, .unset, .unset, .unset] [(.ref w_AMOUNT)])) _
        refine XS.astore X3.here hx rfl (hb hby at_14) rfl rfl (l' := #[.val (.int p1), .val (.int p2), .val (.int p3), .val (.int p4), .val (.int (0 : Int32)), .val (.ref w_AMOUNT), .unset, .unset, .unset, .unset, .unset, .unset]) rfl ?_
        show Steps p.tables e below (T3.setTop (mkF m 16 #[.val (.int p1), .val (.int p2), .val (.int p3), .val (.int p4), .val (.int (0 : Int32)), .val (.ref w_AMOUNT), .unset, .unset, .unset, .unset, .unset, .unset] [])) _
        refine XS.iloadN X3.here hx rfl (hb hby at_16) rfl ?_
        show Steps p.tables e below (T3.setTop (mkF m 17 #[.val (.int p1), .val (.int p2), .val (.int p3), .val (.int p4), .val (.int (0 : Int32)), .val (.ref w_AMOUNT), .unset, .unset, .unset, .unset, .unset, .unset] [(.int p2)])) _
        refine XS.iconst X3.here hx rfl (hb hby at_17) ?_
        show Steps p.tables e below (T3.setTop (mkF m 18 #[.val (.int p1), .val (.int p2), .val (.int p3), .val (.int p4), .val (.int (0 : Int32)), .val (.ref w_AMOUNT), .unset, .unset, .unset, .unset, .unset, .unset] [(.int (1 : Int32)), (.int p2)])) _
        refine XS.iand X3.here hx rfl (hb hby at_18) rfl ?_
        exact k)
    by_cases hc5 : (p2 &&& (1 : Int32)) = (0 : Int32)
    · obtain ⟨T6, X6, e6, st6⟩ := getS2 X3 hx hZ hown (host := "") (Or.inl (hw _ (List.mem_of_getElem? (i := 84) rfl))) Via.refl e3 S_STRING (g := (mkF m 40 #[.val (.int p1), .val (.int p2), .val (.int p3), .val (.int p4), .val (.int (0 : Int32)), .val (.ref w_AMOUNT), .val (.int (0 : Int32)), .unset, .unset, .unset, .unset, .unset] [])) rfl (hb hby at_40)
      obtain ⟨T7, h7, k7, X7, e7, E7, A7, st7⟩ := newP X6 hx hZ (hw _ (List.mem_of_getElem? (i := 11) rfl)) e6 (g := (mkF m 46 #[.val (.int p1), .val (.int p2), .val (.int p3), .val (.int p4), .val (.int (0 : Int32)), .val (.ref w_AMOUNT), .val (.int (0 : Int32)), .val (.ref wS), .unset, .unset, .unset, .unset] [(.int (1 : Int32))])) rfl (hb hby at_46) rfl (by decide) (cap := 1) (by decide) (by decide) (by decide) (by decide)
      obtain ⟨b7, g7⟩ : ∃ z, z = h0.size := ⟨_, rfl⟩
      rw [← g7] at A7 st7
      have V_b7 : Arv Z h7 b7 k7 .char (1 : Int32) [(.int (0 : Int32))] (.int (0 : Int32)) := (Arv.new A7 (by decide)).pad (pad_rep [] (.int (0 : Int32)) 1)
      have g_b7 : n0 ≤ b7 := Nat.le_trans Z0 (Nat.le_of_eq g7.symm)
      have sz_b7 : h0.size ≤ b7 := Nat.le_trans ((Keep.refl h0 [])).1 (Nat.le_of_eq g7.symm)
      have K7 : Keep h0 h7 [] := ((Keep.refl h0 [])).ext E7
      obtain ⟨cl8, Ar8, q8, S8, N8_, H8, G8⟩ := id V_b7
      obtain ⟨T8, h8, X8, e8, W8, st8⟩ := stC X7 hx hZ e7 Ar8 (j := (0 : Int32)) (inb_of S8 ⟨by decide, by decide⟩) (g := (mkF m 56 #[.val (.int p1), .val (.int p2), .val (.int p3), .val (.int p4), .val (.int (0 : Int32)), .val (.ref w_AMOUNT), .val (.int (0 : Int32)), .val (.ref wS), .unset, .unset, .unset, .unset] [(.int ((p3 &&& (255 : Int32)).toUInt32.toUInt16.toUInt32.toInt32)), (.int (0 : Int32)), (.ref b7), (.ref b7)])) rfl rfl (hb hby at_56)
      have V8 := Arv.set Ar8 q8 S8 N8_ H8 G8 (fits_nar_char _) W8 0 rfl (Nat.le_of_ble_eq_true rfl)
      have K8 : Keep h0 h8 [] := (K7).wr W8 (Or.inr sz_b7)
      have N8 := Fr.snoc X8 N3 g_b7
      obtain ⟨T9, h9, X9, e9, E9, A9, D9, -, st9⟩ := newO X8 hx hZ hown (hw _ (List.mem_of_getElem? (i := 12) rfl)) (hw _ (List.mem_of_getElem? (i := 13) rfl)) (hw _ (List.mem_of_getElem? (i := 14) rfl)) e8 (g := (mkF m 59 #[.val (.int p1), .val (.int p2), .val (.int p3), .val (.int p4), .val (.int (0 : Int32)), .val (.ref w_AMOUNT), .val (.int (0 : Int32)), .val (.ref wS), .val (.ref b7), .unset, .unset, .unset] [])) rfl (hb hby at_59) (by decide) (by decide)
      obtain ⟨b9, g9⟩ : ∃ z, z = h8.size := ⟨_, rfl⟩
      rw [← g9] at A9 D9 st9
      have ne_b7_b9 : b7 ≠ b9 := Nat.ne_of_lt (Nat.lt_of_lt_of_le V8.lt (Nat.le_of_eq g9.symm))
      have g_b9 : n0 ≤ b9 := Nat.le_trans (Nat.le_trans Z0 K8.1) (Nat.le_of_eq g9.symm)
      have sz_b9 : h0.size ≤ b9 := Nat.le_trans (K8).1 (Nat.le_of_eq g9.symm)
      have K9 : Keep h0 h9 [] := (K8).ext E9
      have F9_kind : Fld Z h9 b9 "com/example/riscontro/riscontro/rules/Token" "kind" "Lcom/example/riscontro/riscontro/rules/Token$Kind;" .null := D9 (Or.inr (hw _ (List.mem_of_getElem? (i := 62) rfl))) (ty := (.object "com/example/riscontro/riscontro/rules/Token$Kind")) (by decide)
      have F9_text : Fld Z h9 b9 "com/example/riscontro/riscontro/rules/Token" "text" "Ljava/lang/String;" .null := D9 (Or.inr (hw _ (List.mem_of_getElem? (i := 64) rfl))) (ty := (.object "java/lang/String")) (by decide)
      have F9_start : Fld Z h9 b9 "com/example/riscontro/riscontro/rules/Token" "start" "I" (.int (0 : Int32)) := D9 (Or.inr (hw _ (List.mem_of_getElem? (i := 66) rfl))) (ty := .int) (by decide)
      have f10 := (V8.ext E9)
      obtain ⟨T11, h11, X11, e11, E11, A11, D11, -, st11⟩ := newO X9 hx hZ hown (hw _ (List.mem_of_getElem? (i := 15) rfl)) (hw _ (List.mem_of_getElem? (i := 16) rfl)) (hw _ (List.mem_of_getElem? (i := 17) rfl)) e9 (g := (mkF m 65 #[.val (.int p1), .val (.int p2), .val (.int p3), .val (.int p4), .val (.int (0 : Int32)), .val (.ref w_AMOUNT), .val (.int (0 : Int32)), .val (.ref wS), .val (.ref b7), .unset, .unset, .unset] [(.ref wS), (.ref b9), (.ref b9)])) rfl (hb hby at_65) (by decide) (by decide)
      obtain ⟨b11, g11⟩ : ∃ z, z = h9.size := ⟨_, rfl⟩
      rw [← g11] at A11 D11 st11
      have ne_b7_b11 : b7 ≠ b11 := Nat.ne_of_lt (Nat.lt_of_lt_of_le f10.lt (Nat.le_of_eq g11.symm))
      have ne_b9_b11 : b9 ≠ b11 := Nat.ne_of_lt (Nat.lt_of_lt_of_le A9.lt (Nat.le_of_eq g11.symm))
      have g_b11 : n0 ≤ b11 := Nat.le_trans (Nat.le_trans Z0 K9.1) (Nat.le_of_eq g11.symm)
      have sz_b11 : h0.size ≤ b11 := Nat.le_trans (K9).1 (Nat.le_of_eq g11.symm)
      have K11 : Keep h0 h11 [] := (K9).ext E11
      have F11_coder : Fld Z h11 b11 "java/lang/String" "coder" "B" (.int (0 : Int32)) := D11 (Or.inr (hw _ (List.mem_of_getElem? (i := 41) rfl))) (ty := .byte) (by decide)
      have F11_value : Fld Z h11 b11 "java/lang/String" "value" "[B" .null := D11 (Or.inr (hw _ (List.mem_of_getElem? (i := 43) rfl))) (ty := (.array .byte)) (by decide)
      have f12 := (f10.ext E11)
      have V13 : Arv Z h11 b7 _ .char (1 : Int32) (([nar .char ((p3 &&& (255 : Int32)).toUInt32.toUInt16.toUInt32.toInt32)] : List Int32).map Value.int) (.int (0 : Int32)) := f12
      have hws : ∀ d ∈ StrChars.Road.words, d.before a0 Z = true := fun d hd => hw d ((by decide +kernel : ∀ d ∈ StrChars.Road.words, d ∈ tables_1) d hd)
      obtain ⟨_, _, ⟨T14, L14, k14, n14⟩, -, X14, ⟨Lc14, hQ14, l14, y14, z14⟩, st14⟩ := X11.specialBack hx (y := (⟨"java/lang/String", "<init>", "([C)V"⟩ : MethodName)) rfl hown (mvT hZ (hw _ (List.mem_of_getElem? (i := 18) rfl))) (mvT hZ (hw _ (List.mem_of_getElem? (i := 19) rfl))) (mvT hZ (hw _ (List.mem_of_getElem? (i := 20) rfl))) (by decide) (StrChars.Road.backV (W := 4) hZ hws (kI := 4) (hw _ (List.mem_of_getElem? (i := 16) rfl)) (cs := [nar .char ((p3 &&& (255 : Int32)).toUInt32.toUInt16.toUInt32.toInt32)]) (bs := ([nar .char ((p3 &&& (255 : Int32)).toUInt32.toUInt16.toUInt32.toInt32)] : List Int32).map (fun c => c.toInt8.toInt32)) (n := 1) g_b11 (Nat.le_trans Z0 K11.1) A11 F11_value F11_coder V13 (Sta.ext (own_keep_ext K11) S_C) hzc rfl rfl (by decide) (by decide) (own_chrb p3) rfl (by decide) (by decide)) (g := (mkF m 71 #[.val (.int p1), .val (.int p2), .val (.int p3), .val (.int p4), .val (.int (0 : Int32)), .val (.ref w_AMOUNT), .val (.int (0 : Int32)), .val (.ref wS), .val (.ref b7), .unset, .unset, .unset] [(.ref b7), (.ref b11), (.ref b11), (.ref wS), (.ref b9), (.ref b9)])) rfl (by rw [hml]; rfl) (Steps.refl _) (a := b11) (argsL := [(.ref b7)]) (rest := [(.ref b11), (.ref wS), (.ref b9), (.ref b9)]) (lenOf pd_rm0_1 rfl) rfl (by show 2 * 0 + _ ≤ _; exact Nat.le_of_eq rfl) (hb hby at_71) (fun _ _ => ⟨rfl, e11, (by decide : 3 + 1 ≤ _), (by decide : 8 + 1 ≤ _)⟩)
      dsimp only [Pt.U, Pt.locs, Pt.cells, Pt.slots] at X14 l14 y14 z14 st14 hQ14
      subst l14 y14 z14
      obtain ⟨rfl, N14q, K14q, A14q, C14q, t14, k14, g141, g142, g143, F14q, B14q⟩ := hQ14
      have N14 := Fr.app N8 N14q
      have K14 : Keep h0 T14.heap [] := (K11).trans K14q (allS (Or.inr sz_b11) all0)
      have f15 := ((Exa.ext E11 A9).keep K14q)
      have f16 := ((Fld.ext E11 F9_kind).keep K14q (ninS ne_b9_b11 nin0))
      have f17 := ((Fld.ext E11 F9_text).keep K14q (ninS ne_b9_b11 nin0))
      have f18 := ((Fld.ext E11 F9_start).keep K14q (ninS ne_b9_b11 nin0))
      obtain ⟨_, _, ⟨T19, L19, k19, n19⟩, -, X19, hS2_19, hg_19, ⟨Lc19, hQ19, l19, y19, z19⟩, st19⟩ := X14.specialBackS hx (y := (⟨"com/example/riscontro/riscontro/rules/Token", "<init>", "(Lcom/example/riscontro/riscontro/rules/Token$Kind;Ljava/lang/String;I)V"⟩ : MethodName)) rfl hown (mvT hZ (hw _ (List.mem_of_getElem? (i := 44) rfl))) (mvT hZ (hw _ (List.mem_of_getElem? (i := 45) rfl))) (mvT hZ (hw _ (List.mem_of_getElem? (i := 46) rfl))) (by decide) (backOfS (W := 1) (rmT l Z a0 hw [] b9 wS b11 (p4 &&& (2147483647 : Int32)) T14.heap n0 (Nat.le_trans Z0 K14.1) f15 f16 f17 f18 g_b9 (own_start p4)) hZ (hw _ (List.mem_of_getElem? (i := 46) rfl)) (hw _ (List.mem_of_getElem? (i := 14) rfl)) (by decide) (by decide)) (g := (mkF m 78 #[.val (.int p1), .val (.int p2), .val (.int p3), .val (.int p4), .val (.int (0 : Int32)), .val (.ref w_AMOUNT), .val (.int (0 : Int32)), .val (.ref wS), .val (.ref b7), .unset, .unset, .unset] [(.int (p4 &&& (2147483647 : Int32))), (.ref b11), (.ref wS), (.ref b9), (.ref b9)])) rfl (by rw [hml]; rfl) (Steps.refl _) (a := b9) (argsL := [(.ref wS), (.ref b11), (.int (p4 &&& (2147483647 : Int32)))]) (rest := [(.ref b9)]) (lenOf pd_rm0_2 rfl) rfl (by show 2 * 0 + _ ≤ _; exact Nat.le_of_eq rfl) (hb hby at_78) (fun _ _ => ⟨rfl, rfl, (by decide : 4 + 4 ≤ _), (by decide : 9 + 40 ≤ _)⟩)
      dsimp only [Pt.U, Pt.locs, Pt.cells, Pt.slots] at X19 l19 y19 z19 st19 hQ19
      subst l19 y19 z19
      obtain ⟨X19', hS19', hZ19', hown19'⟩ := rebS (s := s) (vm0 := s.vm) hS0 (show _ ≤ T14.heap.size by exact (Nat.le_trans (Nat.le_trans (Nat.le_trans (Nat.le_trans (Nat.le_trans (Nat.zero_le _) (E7).1) (Keep.of_wr W8).1) (E9).1) (E11).1) (K14q).1)) X19 hS2_19 hg_19 hZ hown
      obtain ⟨rfl, N19q, K19q, A19q, G19q⟩ := hQ19
      have N19 := Fr.app N14 N19q
      have K19 : Keep h0 T19.heap [] := (K14).trans K19q (allS (Or.inr sz_b9) all0)
      obtain ⟨cq20, kq20, q20a, q20b, q20c⟩ := isOf hZ19' rfl (Exa.ext (own_keep_ext K19) E_AMOUNT)
      obtain ⟨_, _, ⟨T20, L20, k20, n20⟩, -, X20, ⟨Lc20, hQ20, l20, y20, z20⟩, st20⟩ := X19'.virtualBack hx (y := (⟨"com/example/riscontro/riscontro/rules/Field", "takes", "(Lcom/example/riscontro/riscontro/rules/Token;)Z"⟩ : MethodName)) (z := (⟨"com/example/riscontro/riscontro/rules/Field", "takes", "(Lcom/example/riscontro/riscontro/rules/Token;)Z"⟩ : MethodName)) hown19' (mvT hZ19' (hw _ (List.mem_of_getElem? (i := 67) rfl))) (mvT hZ19' (hw _ (List.mem_of_getElem? (i := 68) rfl))) (notFace_of_selects (args := #[]) (mvT hZ19' (hw _ (List.mem_of_getElem? (i := 70) rfl)))) (mvT hZ19' (hw _ (List.mem_of_getElem? (i := 70) rfl))) (mvT hZ19' (hw _ (List.mem_of_getElem? (i := 69) rfl))) (by decide) (backOf (W := 0) (rmX l Z a0 hw [] w_AMOUNT b9 wN wS (0 : Int32) T19.heap n0 (Nat.le_trans Z0 K19.1) (Fld.ext (own_keep_ext K19) V_AMOUNT) G19q A19q (if_neg hSN)) hZ19' (hw _ (List.mem_of_getElem? (i := 71) rfl)) (hw _ (List.mem_of_getElem? (i := 6) rfl)) (by decide) (by decide)) q20a q20c (g := (mkF m 119 #[.val (.int p1), .val (.int p2), .val (.int p3), .val (.int p4), .val (.int (0 : Int32)), .val (.ref w_AMOUNT), .val (.int (0 : Int32)), .val (.ref wS), .val (.ref b7), .val (.ref b9), .val (.int (1 : Int32)), .val (.int (0 : Int32))] [(.ref b9), (.ref w_AMOUNT)])) rfl (by rw [hml]; rfl) (Steps.refl _) (argsL := [(.ref b9)]) (rest := []) (lenOf pd_rm0_3 rfl) rfl (by show 2 * 0 + _ ≤ _; exact Nat.le_of_eq rfl) (hb hby at_119) (fun _ _ => ⟨rfl, rfl, (by decide : 8 + 0 ≤ _), (by decide : 49 + 0 ≤ _)⟩)
      dsimp only [Pt.U, Pt.locs, Pt.cells, Pt.slots] at X20 l20 y20 z20 st20 hQ20
      subst l20 y20 z20
      obtain ⟨rfl, N20q, e20⟩ := hQ20
      have N20 := Fr.app N19 N20q
      obtain ⟨fs, hr, hrun, hended, hRW⟩ := Jvm.Stand.leaveW (s := s) (vm₁ := T19.vm) X20 hS19' (show _ ≤ T20.heap.size by rw [e20]; exact (Nat.le_refl T19.heap.size)) (v := some (.int (1 : Int32))) (fun h => by rw [Bd.returns] at h; cases h)
      refine ⟨_, _, pre4 _ ?_, hrun, hended, _, _, rfl, ?_, hRW.1, hRW.2.1, hRW.2.2.1, hRW.2.2.2.mono (by decide) (by decide)⟩
      · show Steps p.tables e below (T3.setTop (mkF m 19 #[.val (.int p1), .val (.int p2), .val (.int p3), .val (.int p4), .val (.int (0 : Int32)), .val (.ref w_AMOUNT), .unset, .unset, .unset, .unset, .unset, .unset] [(.int (p2 &&& (1 : Int32)))])) _
        refine XS.ifYes X3.here hx rfl (pc0 := 19) (pc' := 26) rfl (hb hby at_19) rfl ((if0 _ _).trans (teq hc5).1) (by decide) (by decide) ?_
        show Steps p.tables e below (T3.setTop (mkF m 26 #[.val (.int p1), .val (.int p2), .val (.int p3), .val (.int p4), .val (.int (0 : Int32)), .val (.ref w_AMOUNT), .unset, .unset, .unset, .unset, .unset, .unset] [])) _
        refine XS.iconst X3.here hx rfl (hb hby at_26) ?_
        show Steps p.tables e below (T3.setTop (mkF m 27 #[.val (.int p1), .val (.int p2), .val (.int p3), .val (.int p4), .val (.int (0 : Int32)), .val (.ref w_AMOUNT), .unset, .unset, .unset, .unset, .unset, .unset] [(.int (0 : Int32))])) _
        refine XS.istore X3.here hx rfl (hb hby at_27) rfl (l' := #[.val (.int p1), .val (.int p2), .val (.int p3), .val (.int p4), .val (.int (0 : Int32)), .val (.ref w_AMOUNT), .val (.int (0 : Int32)), .unset, .unset, .unset, .unset, .unset]) rfl ?_
        show Steps p.tables e below (T3.setTop (mkF m 29 #[.val (.int p1), .val (.int p2), .val (.int p3), .val (.int p4), .val (.int (0 : Int32)), .val (.ref w_AMOUNT), .val (.int (0 : Int32)), .unset, .unset, .unset, .unset, .unset] [])) _
        refine XS.iload X3.here hx rfl (hb hby at_29) rfl ?_
        show Steps p.tables e below (T3.setTop (mkF m 31 #[.val (.int p1), .val (.int p2), .val (.int p3), .val (.int p4), .val (.int (0 : Int32)), .val (.ref w_AMOUNT), .val (.int (0 : Int32)), .unset, .unset, .unset, .unset, .unset] [(.int (0 : Int32))])) _
        refine XS.ifYes X3.here hx rfl (pc0 := 31) (pc' := 40) rfl (hb hby at_31) rfl ((if0 _ _).trans (teq (rfl : (0 : Int32) = (0 : Int32))).1) (by decide) (by decide) ?_
        show Steps p.tables e below (T3.setTop (mkF m 40 #[.val (.int p1), .val (.int p2), .val (.int p3), .val (.int p4), .val (.int (0 : Int32)), .val (.ref w_AMOUNT), .val (.int (0 : Int32)), .unset, .unset, .unset, .unset, .unset] [])) _
        refine st6 _ ?_
        show Steps p.tables e below (T6.setTop (mkF m 43 #[.val (.int p1), .val (.int p2), .val (.int p3), .val (.int p4), .val (.int (0 : Int32)), .val (.ref w_AMOUNT), .val (.int (0 : Int32)), .unset, .unset, .unset, .unset, .unset] [(.ref wS)])) _
        refine XS.astore X6.here hx rfl (hb hby at_43) rfl rfl (l' := #[.val (.int p1), .val (.int p2), .val (.int p3), .val (.int p4), .val (.int (0 : Int32)), .val (.ref w_AMOUNT), .val (.int (0 : Int32)), .val (.ref wS), .unset, .unset, .unset, .unset]) rfl ?_
        show Steps p.tables e below (T6.setTop (mkF m 45 #[.val (.int p1), .val (.int p2), .val (.int p3), .val (.int p4), .val (.int (0 : Int32)), .val (.ref w_AMOUNT), .val (.int (0 : Int32)), .val (.ref wS), .unset, .unset, .unset, .unset] [])) _
        refine XS.iconst X6.here hx rfl (hb hby at_45) ?_
        show Steps p.tables e below (T6.setTop (mkF m 46 #[.val (.int p1), .val (.int p2), .val (.int p3), .val (.int p4), .val (.int (0 : Int32)), .val (.ref w_AMOUNT), .val (.int (0 : Int32)), .val (.ref wS), .unset, .unset, .unset, .unset] [(.int (1 : Int32))])) _
        refine st7 _ ?_
        show Steps p.tables e below (T7.setTop (mkF m 48 #[.val (.int p1), .val (.int p2), .val (.int p3), .val (.int p4), .val (.int (0 : Int32)), .val (.ref w_AMOUNT), .val (.int (0 : Int32)), .val (.ref wS), .unset, .unset, .unset, .unset] [(.ref b7)])) _
        refine XS.dup X7.here hx rfl (hb hby at_48) rfl rfl ?_
        show Steps p.tables e below (T7.setTop (mkF m 49 #[.val (.int p1), .val (.int p2), .val (.int p3), .val (.int p4), .val (.int (0 : Int32)), .val (.ref w_AMOUNT), .val (.int (0 : Int32)), .val (.ref wS), .unset, .unset, .unset, .unset] [(.ref b7), (.ref b7)])) _
        refine XS.iconst X7.here hx rfl (hb hby at_49) ?_
        show Steps p.tables e below (T7.setTop (mkF m 50 #[.val (.int p1), .val (.int p2), .val (.int p3), .val (.int p4), .val (.int (0 : Int32)), .val (.ref w_AMOUNT), .val (.int (0 : Int32)), .val (.ref wS), .unset, .unset, .unset, .unset] [(.int (0 : Int32)), (.ref b7), (.ref b7)])) _
        refine XS.iloadN X7.here hx rfl (hb hby at_50) rfl ?_
        show Steps p.tables e below (T7.setTop (mkF m 51 #[.val (.int p1), .val (.int p2), .val (.int p3), .val (.int p4), .val (.int (0 : Int32)), .val (.ref w_AMOUNT), .val (.int (0 : Int32)), .val (.ref wS), .unset, .unset, .unset, .unset] [(.int p3), (.int (0 : Int32)), (.ref b7), (.ref b7)])) _
        refine XS.sipush X7.here hx rfl (hb hby at_51) ?_
        show Steps p.tables e below (T7.setTop (mkF m 54 #[.val (.int p1), .val (.int p2), .val (.int p3), .val (.int p4), .val (.int (0 : Int32)), .val (.ref w_AMOUNT), .val (.int (0 : Int32)), .val (.ref wS), .unset, .unset, .unset, .unset] [(.int (255 : Int32)), (.int p3), (.int (0 : Int32)), (.ref b7), (.ref b7)])) _
        refine XS.iand X7.here hx rfl (hb hby at_54) rfl ?_
        show Steps p.tables e below (T7.setTop (mkF m 55 #[.val (.int p1), .val (.int p2), .val (.int p3), .val (.int p4), .val (.int (0 : Int32)), .val (.ref w_AMOUNT), .val (.int (0 : Int32)), .val (.ref wS), .unset, .unset, .unset, .unset] [(.int (p3 &&& (255 : Int32))), (.int (0 : Int32)), (.ref b7), (.ref b7)])) _
        refine XS.i2c X7.here hx rfl (hb hby at_55) rfl ?_
        show Steps p.tables e below (T7.setTop (mkF m 56 #[.val (.int p1), .val (.int p2), .val (.int p3), .val (.int p4), .val (.int (0 : Int32)), .val (.ref w_AMOUNT), .val (.int (0 : Int32)), .val (.ref wS), .unset, .unset, .unset, .unset] [(.int ((p3 &&& (255 : Int32)).toUInt32.toUInt16.toUInt32.toInt32)), (.int (0 : Int32)), (.ref b7), (.ref b7)])) _
        refine st8 _ ?_
        show Steps p.tables e below (T8.setTop (mkF m 57 #[.val (.int p1), .val (.int p2), .val (.int p3), .val (.int p4), .val (.int (0 : Int32)), .val (.ref w_AMOUNT), .val (.int (0 : Int32)), .val (.ref wS), .unset, .unset, .unset, .unset] [(.ref b7)])) _
        refine XS.astore X8.here hx rfl (hb hby at_57) rfl rfl (l' := #[.val (.int p1), .val (.int p2), .val (.int p3), .val (.int p4), .val (.int (0 : Int32)), .val (.ref w_AMOUNT), .val (.int (0 : Int32)), .val (.ref wS), .val (.ref b7), .unset, .unset, .unset]) rfl ?_
        show Steps p.tables e below (T8.setTop (mkF m 59 #[.val (.int p1), .val (.int p2), .val (.int p3), .val (.int p4), .val (.int (0 : Int32)), .val (.ref w_AMOUNT), .val (.int (0 : Int32)), .val (.ref wS), .val (.ref b7), .unset, .unset, .unset] [])) _
        refine st9 _ ?_
        show Steps p.tables e below (T9.setTop (mkF m 62 #[.val (.int p1), .val (.int p2), .val (.int p3), .val (.int p4), .val (.int (0 : Int32)), .val (.ref w_AMOUNT), .val (.int (0 : Int32)), .val (.ref wS), .val (.ref b7), .unset, .unset, .unset] [(.ref b9)])) _
        refine XS.dup X9.here hx rfl (hb hby at_62) rfl rfl ?_
        show Steps p.tables e below (T9.setTop (mkF m 63 #[.val (.int p1), .val (.int p2), .val (.int p3), .val (.int p4), .val (.int (0 : Int32)), .val (.ref w_AMOUNT), .val (.int (0 : Int32)), .val (.ref wS), .val (.ref b7), .unset, .unset, .unset] [(.ref b9), (.ref b9)])) _
        refine XS.aload X9.here hx rfl (hb hby at_63) rfl rfl ?_
        show Steps p.tables e below (T9.setTop (mkF m 65 #[.val (.int p1), .val (.int p2), .val (.int p3), .val (.int p4), .val (.int (0 : Int32)), .val (.ref w_AMOUNT), .val (.int (0 : Int32)), .val (.ref wS), .val (.ref b7), .unset, .unset, .unset] [(.ref wS), (.ref b9), (.ref b9)])) _
        refine st11 _ ?_
        show Steps p.tables e below (T11.setTop (mkF m 68 #[.val (.int p1), .val (.int p2), .val (.int p3), .val (.int p4), .val (.int (0 : Int32)), .val (.ref w_AMOUNT), .val (.int (0 : Int32)), .val (.ref wS), .val (.ref b7), .unset, .unset, .unset] [(.ref b11), (.ref wS), (.ref b9), (.ref b9)])) _
        refine XS.dup X11.here hx rfl (hb hby at_68) rfl rfl ?_
        show Steps p.tables e below (T11.setTop (mkF m 69 #[.val (.int p1), .val (.int p2), .val (.int p3), .val (.int p4), .val (.int (0 : Int32)), .val (.ref w_AMOUNT), .val (.int (0 : Int32)), .val (.ref wS), .val (.ref b7), .unset, .unset, .unset] [(.ref b11), (.ref b11), (.ref wS), (.ref b9), (.ref b9)])) _
        refine XS.aload X11.here hx rfl (hb hby at_69) rfl rfl ?_
        show Steps p.tables e below (T11.setTop (mkF m 71 #[.val (.int p1), .val (.int p2), .val (.int p3), .val (.int p4), .val (.int (0 : Int32)), .val (.ref w_AMOUNT), .val (.int (0 : Int32)), .val (.ref wS), .val (.ref b7), .unset, .unset, .unset] [(.ref b7), (.ref b11), (.ref b11), (.ref wS), (.ref b9), (.ref b9)])) _
        refine st14.trans ?_
        show Steps p.tables e below (T14.setTop (mkF m 74 #[.val (.int p1), .val (.int p2), .val (.int p3), .val (.int p4), .val (.int (0 : Int32)), .val (.ref w_AMOUNT), .val (.int (0 : Int32)), .val (.ref wS), .val (.ref b7), .unset, .unset, .unset] [(.ref b11), (.ref wS), (.ref b9), (.ref b9)])) _
        refine XS.iloadN X14.here hx rfl (hb hby at_74) rfl ?_
        show Steps p.tables e below (T14.setTop (mkF m 75 #[.val (.int p1), .val (.int p2), .val (.int p3), .val (.int p4), .val (.int (0 : Int32)), .val (.ref w_AMOUNT), .val (.int (0 : Int32)), .val (.ref wS), .val (.ref b7), .unset, .unset, .unset] [(.int p4), (.ref b11), (.ref wS), (.ref b9), (.ref b9)])) _
        refine X14.ldcInt hx hown (mvT hZ (hw _ (List.mem_of_getElem? (i := 0) rfl))) (g := (mkF m 75 #[.val (.int p1), .val (.int p2), .val (.int p3), .val (.int p4), .val (.int (0 : Int32)), .val (.ref w_AMOUNT), .val (.int (0 : Int32)), .val (.ref wS), .val (.ref b7), .unset, .unset, .unset] [(.int p4), (.ref b11), (.ref wS), (.ref b9), (.ref b9)])) rfl (hb hby at_75) _ ?_
        show Steps p.tables e below (T14.setTop (mkF m 77 #[.val (.int p1), .val (.int p2), .val (.int p3), .val (.int p4), .val (.int (0 : Int32)), .val (.ref w_AMOUNT), .val (.int (0 : Int32)), .val (.ref wS), .val (.ref b7), .unset, .unset, .unset] [(.int (2147483647 : Int32)), (.int p4), (.ref b11), (.ref wS), (.ref b9), (.ref b9)])) _
        refine XS.iand X14.here hx rfl (hb hby at_77) rfl ?_
        show Steps p.tables e below (T14.setTop (mkF m 78 #[.val (.int p1), .val (.int p2), .val (.int p3), .val (.int p4), .val (.int (0 : Int32)), .val (.ref w_AMOUNT), .val (.int (0 : Int32)), .val (.ref wS), .val (.ref b7), .unset, .unset, .unset] [(.int (p4 &&& (2147483647 : Int32))), (.ref b11), (.ref wS), (.ref b9), (.ref b9)])) _
        refine st19.trans ?_
        show Steps p.tables e below (T19.setTop (mkF m 81 #[.val (.int p1), .val (.int p2), .val (.int p3), .val (.int p4), .val (.int (0 : Int32)), .val (.ref w_AMOUNT), .val (.int (0 : Int32)), .val (.ref wS), .val (.ref b7), .unset, .unset, .unset] [(.ref b9)])) _
        refine XS.astore X19'.here hx rfl (hb hby at_81) rfl rfl (l' := #[.val (.int p1), .val (.int p2), .val (.int p3), .val (.int p4), .val (.int (0 : Int32)), .val (.ref w_AMOUNT), .val (.int (0 : Int32)), .val (.ref wS), .val (.ref b7), .val (.ref b9), .unset, .unset]) rfl ?_
        show Steps p.tables e below (T19.setTop (mkF m 83 #[.val (.int p1), .val (.int p2), .val (.int p3), .val (.int p4), .val (.int (0 : Int32)), .val (.ref w_AMOUNT), .val (.int (0 : Int32)), .val (.ref wS), .val (.ref b7), .val (.ref b9), .unset, .unset] [])) _
        refine XS.iload X19'.here hx rfl (hb hby at_83) rfl ?_
        show Steps p.tables e below (T19.setTop (mkF m 85 #[.val (.int p1), .val (.int p2), .val (.int p3), .val (.int p4), .val (.int (0 : Int32)), .val (.ref w_AMOUNT), .val (.int (0 : Int32)), .val (.ref wS), .val (.ref b7), .val (.ref b9), .unset, .unset] [(.int (0 : Int32))])) _
        refine XS.ifYes X19'.here hx rfl (pc0 := 85) (pc' := 94) rfl (hb hby at_85) rfl ((if0 _ _).trans (teq (rfl : (0 : Int32) = (0 : Int32))).1) (by decide) (by decide) ?_
        show Steps p.tables e below (T19.setTop (mkF m 94 #[.val (.int p1), .val (.int p2), .val (.int p3), .val (.int p4), .val (.int (0 : Int32)), .val (.ref w_AMOUNT), .val (.int (0 : Int32)), .val (.ref wS), .val (.ref b7), .val (.ref b9), .unset, .unset] [])) _
        refine XS.iconst X19'.here hx rfl (hb hby at_94) ?_
        show Steps p.tables e below (T19.setTop (mkF m 95 #[.val (.int p1), .val (.int p2), .val (.int p3), .val (.int p4), .val (.int (0 : Int32)), .val (.ref w_AMOUNT), .val (.int (0 : Int32)), .val (.ref wS), .val (.ref b7), .val (.ref b9), .unset, .unset] [(.int (1 : Int32))])) _
        refine XS.goto X19'.here hx rfl (pc0 := 95) (pc' := 99) rfl (hb hby at_95) (by decide) (by decide) ?_
        show Steps p.tables e below (T19.setTop (mkF m 99 #[.val (.int p1), .val (.int p2), .val (.int p3), .val (.int p4), .val (.int (0 : Int32)), .val (.ref w_AMOUNT), .val (.int (0 : Int32)), .val (.ref wS), .val (.ref b7), .val (.ref b9), .unset, .unset] [(.int (1 : Int32))])) _
        refine XS.istore X19'.here hx rfl (hb hby at_99) rfl (l' := #[.val (.int p1), .val (.int p2), .val (.int p3), .val (.int p4), .val (.int (0 : Int32)), .val (.ref w_AMOUNT), .val (.int (0 : Int32)), .val (.ref wS), .val (.ref b7), .val (.ref b9), .val (.int (1 : Int32)), .unset]) rfl ?_
        show Steps p.tables e below (T19.setTop (mkF m 101 #[.val (.int p1), .val (.int p2), .val (.int p3), .val (.int p4), .val (.int (0 : Int32)), .val (.ref w_AMOUNT), .val (.int (0 : Int32)), .val (.ref wS), .val (.ref b7), .val (.ref b9), .val (.int (1 : Int32)), .unset] [])) _
        refine XS.iload X19'.here hx rfl (hb hby at_101) rfl ?_
        show Steps p.tables e below (T19.setTop (mkF m 103 #[.val (.int p1), .val (.int p2), .val (.int p3), .val (.int p4), .val (.int (0 : Int32)), .val (.ref w_AMOUNT), .val (.int (0 : Int32)), .val (.ref wS), .val (.ref b7), .val (.ref b9), .val (.int (1 : Int32)), .unset] [(.int (1 : Int32))])) _
        refine XS.iload X19'.here hx rfl (hb hby at_103) rfl ?_
        show Steps p.tables e below (T19.setTop (mkF m 105 #[.val (.int p1), .val (.int p2), .val (.int p3), .val (.int p4), .val (.int (0 : Int32)), .val (.ref w_AMOUNT), .val (.int (0 : Int32)), .val (.ref wS), .val (.ref b7), .val (.ref b9), .val (.int (1 : Int32)), .unset] [(.int (0 : Int32)), (.int (1 : Int32))])) _
        refine XS.icmpYes X19'.here hx rfl (pc0 := 105) (pc' := 112) rfl (hb hby at_105) rfl (feq (by decide : ¬ ((1 : Int32) = (0 : Int32)))).2 (by decide) (by decide) ?_
        show Steps p.tables e below (T19.setTop (mkF m 112 #[.val (.int p1), .val (.int p2), .val (.int p3), .val (.int p4), .val (.int (0 : Int32)), .val (.ref w_AMOUNT), .val (.int (0 : Int32)), .val (.ref wS), .val (.ref b7), .val (.ref b9), .val (.int (1 : Int32)), .unset] [])) _
        refine XS.iconst X19'.here hx rfl (hb hby at_112) ?_
        show Steps p.tables e below (T19.setTop (mkF m 113 #[.val (.int p1), .val (.int p2), .val (.int p3), .val (.int p4), .val (.int (0 : Int32)), .val (.ref w_AMOUNT), .val (.int (0 : Int32)), .val (.ref wS), .val (.ref b7), .val (.ref b9), .val (.int (1 : Int32)), .unset] [(.int (0 : Int32))])) _
        refine XS.istore X19'.here hx rfl (hb hby at_113) rfl (l' := #[.val (.int p1), .val (.int p2), .val (.int p3), .val (.int p4), .val (.int (0 : Int32)), .val (.ref w_AMOUNT), .val (.int (0 : Int32)), .val (.ref wS), .val (.ref b7), .val (.ref b9), .val (.int (1 : Int32)), .val (.int (0 : Int32))]) rfl ?_
        show Steps p.tables e below (T19.setTop (mkF m 115 #[.val (.int p1), .val (.int p2), .val (.int p3), .val (.int p4), .val (.int (0 : Int32)), .val (.ref w_AMOUNT), .val (.int (0 : Int32)), .val (.ref wS), .val (.ref b7), .val (.ref b9), .val (.int (1 : Int32)), .val (.int (0 : Int32))] [])) _
        refine XS.aload X19'.here hx rfl (hb hby at_115) rfl rfl ?_
        show Steps p.tables e below (T19.setTop (mkF m 117 #[.val (.int p1), .val (.int p2), .val (.int p3), .val (.int p4), .val (.int (0 : Int32)), .val (.ref w_AMOUNT), .val (.int (0 : Int32)), .val (.ref wS), .val (.ref b7), .val (.ref b9), .val (.int (1 : Int32)), .val (.int (0 : Int32))] [(.ref w_AMOUNT)])) _
        refine XS.aload X19'.here hx rfl (hb hby at_117) rfl rfl ?_
        show Steps p.tables e below (T19.setTop (mkF m 119 #[.val (.int p1), .val (.int p2), .val (.int p3), .val (.int p4), .val (.int (0 : Int32)), .val (.ref w_AMOUNT), .val (.int (0 : Int32)), .val (.ref wS), .val (.ref b7), .val (.ref b9), .val (.int (1 : Int32)), .val (.int (0 : Int32))] [(.ref b9), (.ref w_AMOUNT)])) _
        refine st20.trans ?_
        show Steps p.tables e below (T20.setTop (mkF m 122 #[.val (.int p1), .val (.int p2), .val (.int p3), .val (.int p4), .val (.int (0 : Int32)), .val (.ref w_AMOUNT), .val (.int (0 : Int32)), .val (.ref wS), .val (.ref b7), .val (.ref b9), .val (.int (1 : Int32)), .val (.int (0 : Int32))] [(.int (0 : Int32))])) _
        refine XS.iload X20.here hx rfl (hb hby at_122) rfl ?_
        show Steps p.tables e below (T20.setTop (mkF m 124 #[.val (.int p1), .val (.int p2), .val (.int p3), .val (.int p4), .val (.int (0 : Int32)), .val (.ref w_AMOUNT), .val (.int (0 : Int32)), .val (.ref wS), .val (.ref b7), .val (.ref b9), .val (.int (1 : Int32)), .val (.int (0 : Int32))] [(.int (0 : Int32)), (.int (0 : Int32))])) _
        refine XS.icmpNo X20.here hx rfl (hb hby at_124) rfl (teq (rfl : (0 : Int32) = (0 : Int32))).2 ?_
        show Steps p.tables e below (T20.setTop (mkF m 127 #[.val (.int p1), .val (.int p2), .val (.int p3), .val (.int p4), .val (.int (0 : Int32)), .val (.ref w_AMOUNT), .val (.int (0 : Int32)), .val (.ref wS), .val (.ref b7), .val (.ref b9), .val (.int (1 : Int32)), .val (.int (0 : Int32))] [])) _
        refine XS.iconst X20.here hx rfl (hb hby at_127) ?_
        show Steps p.tables e below (T20.setTop (mkF m 128 #[.val (.int p1), .val (.int p2), .val (.int p3), .val (.int p4), .val (.int (0 : Int32)), .val (.ref w_AMOUNT), .val (.int (0 : Int32)), .val (.ref wS), .val (.ref b7), .val (.ref b9), .val (.int (1 : Int32)), .val (.int (0 : Int32))] [(.int (1 : Int32))])) _
        refine XS.goto X20.here hx rfl (pc0 := 128) (pc' := 132) rfl (hb hby at_128) (by decide) (by decide) ?_
        show Steps p.tables e below (T20.setTop (mkF m 132 #[.val (.int p1), .val (.int p2), .val (.int p3), .val (.int p4), .val (.int (0 : Int32)), .val (.ref w_AMOUNT), .val (.int (0 : Int32)), .val (.ref wS), .val (.ref b7), .val (.ref b9), .val (.int (1 : Int32)), .val (.int (0 : Int32))] [(.int (1 : Int32))])) _
        exact retN X20 hx (t := .boolean) Bd.returns (by simp) (hb hby at_132) hr
      · show Q_rm0 Z p1 p2 p3 p4 w_AMOUNT w_CURRENCY w_MERCHANT_ID w_IP_ADDRESS w_DEVICE_ID w_USER_AGE w_USER_REGION wN wS zc h0 n0 _ T20.heap _
        rw [e20]
        exact ⟨rfl, N20⟩
    · obtain ⟨T21, X21, e21, st21⟩ := getS2 X3 hx hZ hown (host := "") (Or.inl (hw _ (List.mem_of_getElem? (i := 8) rfl))) Via.refl e3 S_NUMBER (g := (mkF m 34 #[.val (.int p1), .val (.int p2), .val (.int p3), .val (.int p4), .val (.int (0 : Int32)), .val (.ref w_AMOUNT), .val (.int (1 : Int32)), .unset, .unset, .unset, .unset, .unset] [])) rfl (hb hby at_34)
      obtain ⟨T22, h22, k22, X22, e22, E22, A22, st22⟩ := newP X21 hx hZ (hw _ (List.mem_of_getElem? (i := 11) rfl)) e21 (g := (mkF m 46 #[.val (.int p1), .val (.int p2), .val (.int p3), .val (.int p4), .val (.int (0 : Int32)), .val (.ref w_AMOUNT), .val (.int (1 : Int32)), .val (.ref wN), .unset, .unset, .unset, .unset] [(.int (1 : Int32))])) rfl (hb hby at_46) rfl (by decide) (cap := 1) (by decide) (by decide) (by decide) (by decide)
      obtain ⟨b22, g22⟩ : ∃ z, z = h0.size := ⟨_, rfl⟩
      rw [← g22] at A22 st22
      have V_b22 : Arv Z h22 b22 k22 .char (1 : Int32) [(.int (0 : Int32))] (.int (0 : Int32)) := (Arv.new A22 (by decide)).pad (pad_rep [] (.int (0 : Int32)) 1)
      have g_b22 : n0 ≤ b22 := Nat.le_trans Z0 (Nat.le_of_eq g22.symm)
      have sz_b22 : h0.size ≤ b22 := Nat.le_trans ((Keep.refl h0 [])).1 (Nat.le_of_eq g22.symm)
      have K22 : Keep h0 h22 [] := ((Keep.refl h0 [])).ext E22
      obtain ⟨cl23, Ar23, q23, S23, N23_, H23, G23⟩ := id V_b22
      obtain ⟨T23, h23, X23, e23, W23, st23⟩ := stC X22 hx hZ e22 Ar23 (j := (0 : Int32)) (inb_of S23 ⟨by decide, by decide⟩) (g := (mkF m 56 #[.val (.int p1), .val (.int p2), .val (.int p3), .val (.int p4), .val (.int (0 : Int32)), .val (.ref w_AMOUNT), .val (.int (1 : Int32)), .val (.ref wN), .unset, .unset, .unset, .unset] [(.int ((p3 &&& (255 : Int32)).toUInt32.toUInt16.toUInt32.toInt32)), (.int (0 : Int32)), (.ref b22), (.ref b22)])) rfl rfl (hb hby at_56)
      have V23 := Arv.set Ar23 q23 S23 N23_ H23 G23 (fits_nar_char _) W23 0 rfl (Nat.le_of_ble_eq_true rfl)
      have K23 : Keep h0 h23 [] := (K22).wr W23 (Or.inr sz_b22)
      have N23 := Fr.snoc X23 N3 g_b22
      obtain ⟨T24, h24, X24, e24, E24, A24, D24, -, st24⟩ := newO X23 hx hZ hown (hw _ (List.mem_of_getElem? (i := 12) rfl)) (hw _ (List.mem_of_getElem? (i := 13) rfl)) (hw _ (List.mem_of_getElem? (i := 14) rfl)) e23 (g := (mkF m 59 #[.val (.int p1), .val (.int p2), .val (.int p3), .val (.int p4), .val (.int (0 : Int32)), .val (.ref w_AMOUNT), .val (.int (1 : Int32)), .val (.ref wN), .val (.ref b22), .unset, .unset, .unset] [])) rfl (hb hby at_59) (by decide) (by decide)
      obtain ⟨b24, g24⟩ : ∃ z, z = h23.size := ⟨_, rfl⟩
      rw [← g24] at A24 D24 st24
      have ne_b22_b24 : b22 ≠ b24 := Nat.ne_of_lt (Nat.lt_of_lt_of_le V23.lt (Nat.le_of_eq g24.symm))
      have g_b24 : n0 ≤ b24 := Nat.le_trans (Nat.le_trans Z0 K23.1) (Nat.le_of_eq g24.symm)
      have sz_b24 : h0.size ≤ b24 := Nat.le_trans (K23).1 (Nat.le_of_eq g24.symm)
      have K24 : Keep h0 h24 [] := (K23).ext E24
      have F24_kind : Fld Z h24 b24 "com/example/riscontro/riscontro/rules/Token" "kind" "Lcom/example/riscontro/riscontro/rules/Token$Kind;" .null := D24 (Or.inr (hw _ (List.mem_of_getElem? (i := 62) rfl))) (ty := (.object "com/example/riscontro/riscontro/rules/Token$Kind")) (by decide)
      have F24_text : Fld Z h24 b24 "com/example/riscontro/riscontro/rules/Token" "text" "Ljava/lang/String;" .null := D24 (Or.inr (hw _ (List.mem_of_getElem? (i := 64) rfl))) (ty := (.object "java/lang/String")) (by decide)
      have F24_start : Fld Z h24 b24 "com/example/riscontro/riscontro/rules/Token" "start" "I" (.int (0 : Int32)) := D24 (Or.inr (hw _ (List.mem_of_getElem? (i := 66) rfl))) (ty := .int) (by decide)
      have f25 := (V23.ext E24)
      obtain ⟨T26, h26, X26, e26, E26, A26, D26, -, st26⟩ := newO X24 hx hZ hown (hw _ (List.mem_of_getElem? (i := 15) rfl)) (hw _ (List.mem_of_getElem? (i := 16) rfl)) (hw _ (List.mem_of_getElem? (i := 17) rfl)) e24 (g := (mkF m 65 #[.val (.int p1), .val (.int p2), .val (.int p3), .val (.int p4), .val (.int (0 : Int32)), .val (.ref w_AMOUNT), .val (.int (1 : Int32)), .val (.ref wN), .val (.ref b22), .unset, .unset, .unset] [(.ref wN), (.ref b24), (.ref b24)])) rfl (hb hby at_65) (by decide) (by decide)
      obtain ⟨b26, g26⟩ : ∃ z, z = h24.size := ⟨_, rfl⟩
      rw [← g26] at A26 D26 st26
      have ne_b22_b26 : b22 ≠ b26 := Nat.ne_of_lt (Nat.lt_of_lt_of_le f25.lt (Nat.le_of_eq g26.symm))
      have ne_b24_b26 : b24 ≠ b26 := Nat.ne_of_lt (Nat.lt_of_lt_of_le A24.lt (Nat.le_of_eq g26.symm))
      have g_b26 : n0 ≤ b26 := Nat.le_trans (Nat.le_trans Z0 K24.1) (Nat.le_of_eq g26.symm)
      have sz_b26 : h0.size ≤ b26 := Nat.le_trans (K24).1 (Nat.le_of_eq g26.symm)
      have K26 : Keep h0 h26 [] := (K24).ext E26
      have F26_coder : Fld Z h26 b26 "java/lang/String" "coder" "B" (.int (0 : Int32)) := D26 (Or.inr (hw _ (List.mem_of_getElem? (i := 41) rfl))) (ty := .byte) (by decide)
      have F26_value : Fld Z h26 b26 "java/lang/String" "value" "[B" .null := D26 (Or.inr (hw _ (List.mem_of_getElem? (i := 43) rfl))) (ty := (.array .byte)) (by decide)
      have f27 := (f25.ext E26)
      have V28 : Arv Z h26 b22 _ .char (1 : Int32) (([nar .char ((p3 &&& (255 : Int32)).toUInt32.toUInt16.toUInt32.toInt32)] : List Int32).map Value.int) (.int (0 : Int32)) := f27
      have hws : ∀ d ∈ StrChars.Road.words, d.before a0 Z = true := fun d hd => hw d ((by decide +kernel : ∀ d ∈ StrChars.Road.words, d ∈ tables_1) d hd)
      obtain ⟨_, _, ⟨T29, L29, k29, n29⟩, -, X29, ⟨Lc29, hQ29, l29, y29, z29⟩, st29⟩ := X26.specialBack hx (y := (⟨"java/lang/String", "<init>", "([C)V"⟩ : MethodName)) rfl hown (mvT hZ (hw _ (List.mem_of_getElem? (i := 18) rfl))) (mvT hZ (hw _ (List.mem_of_getElem? (i := 19) rfl))) (mvT hZ (hw _ (List.mem_of_getElem? (i := 20) rfl))) (by decide) (StrChars.Road.backV (W := 4) hZ hws (kI := 4) (hw _ (List.mem_of_getElem? (i := 16) rfl)) (cs := [nar .char ((p3 &&& (255 : Int32)).toUInt32.toUInt16.toUInt32.toInt32)]) (bs := ([nar .char ((p3 &&& (255 : Int32)).toUInt32.toUInt16.toUInt32.toInt32)] : List Int32).map (fun c => c.toInt8.toInt32)) (n := 1) g_b26 (Nat.le_trans Z0 K26.1) A26 F26_value F26_coder V28 (Sta.ext (own_keep_ext K26) S_C) hzc rfl rfl (by decide) (by decide) (own_chrb p3) rfl (by decide) (by decide)) (g := (mkF m 71 #[.val (.int p1), .val (.int p2), .val (.int p3), .val (.int p4), .val (.int (0 : Int32)), .val (.ref w_AMOUNT), .val (.int (1 : Int32)), .val (.ref wN), .val (.ref b22), .unset, .unset, .unset] [(.ref b22), (.ref b26), (.ref b26), (.ref wN), (.ref b24), (.ref b24)])) rfl (by rw [hml]; rfl) (Steps.refl _) (a := b26) (argsL := [(.ref b22)]) (rest := [(.ref b26), (.ref wN), (.ref b24), (.ref b24)]) (lenOf pd_rm0_1 rfl) rfl (by show 2 * 0 + _ ≤ _; exact Nat.le_of_eq rfl) (hb hby at_71) (fun _ _ => ⟨rfl, e26, (by decide : 3 + 1 ≤ _), (by decide : 8 + 1 ≤ _)⟩)
      dsimp only [Pt.U, Pt.locs, Pt.cells, Pt.slots] at X29 l29 y29 z29 st29 hQ29
      subst l29 y29 z29
      obtain ⟨rfl, N29q, K29q, A29q, C29q, t29, k29, g291, g292, g293, F29q, B29q⟩ := hQ29
      have N29 := Fr.app N23 N29q
      have K29 : Keep h0 T29.heap [] := (K26).trans K29q (allS (Or.inr sz_b26) all0)
      have f30 := ((Exa.ext E26 A24).keep K29q)
      have f31 := ((Fld.ext E26 F24_kind).keep K29q (ninS ne_b24_b26 nin0))
      have f32 := ((Fld.ext E26 F24_text).keep K29q (ninS ne_b24_b26 nin0))
      have f33 := ((Fld.ext E26 F24_start).keep K29q (ninS ne_b24_b26 nin0))
      obtain ⟨_, _, ⟨T34, L34, k34, n34⟩, -, X34, hS2_34, hg_34, ⟨Lc34, hQ34, l34, y34, z34⟩, st34⟩ := X29.specialBackS hx (y := (⟨"com/example/riscontro/riscontro/rules/Token", "<init>", "(Lcom/example/riscontro/riscontro/rules/Token$Kind;Ljava/lang/String;I)V"⟩ : MethodName)) rfl hown (mvT hZ (hw _ (List.mem_of_getElem? (i := 44) rfl))) (mvT hZ (hw _ (List.mem_of_getElem? (i := 45) rfl))) (mvT hZ (hw _ (List.mem_of_getElem? (i := 46) rfl))) (by decide) (backOfS (W := 1) (rmT l Z a0 hw [] b24 wN b26 (p4 &&& (2147483647 : Int32)) T29.heap n0 (Nat.le_trans Z0 K29.1) f30 f31 f32 f33 g_b24 (own_start p4)) hZ (hw _ (List.mem_of_getElem? (i := 46) rfl)) (hw _ (List.mem_of_getElem? (i := 14) rfl)) (by decide) (by decide)) (g := (mkF m 78 #[.val (.int p1), .val (.int p2), .val (.int p3), .val (.int p4), .val (.int (0 : Int32)), .val (.ref w_AMOUNT), .val (.int (1 : Int32)), .val (.ref wN), .val (.ref b22), .unset, .unset, .unset] [(.int (p4 &&& (2147483647 : Int32))), (.ref b26), (.ref wN), (.ref b24), (.ref b24)])) rfl (by rw [hml]; rfl) (Steps.refl _) (a := b24) (argsL := [(.ref wN), (.ref b26), (.int (p4 &&& (2147483647 : Int32)))]) (rest := [(.ref b24)]) (lenOf pd_rm0_2 rfl) rfl (by show 2 * 0 + _ ≤ _; exact Nat.le_of_eq rfl) (hb hby at_78) (fun _ _ => ⟨rfl, rfl, (by decide : 4 + 4 ≤ _), (by decide : 9 + 40 ≤ _)⟩)
      dsimp only [Pt.U, Pt.locs, Pt.cells, Pt.slots] at X34 l34 y34 z34 st34 hQ34
      subst l34 y34 z34
      obtain ⟨X34', hS34', hZ34', hown34'⟩ := rebS (s := s) (vm0 := s.vm) hS0 (show _ ≤ T29.heap.size by exact (Nat.le_trans (Nat.le_trans (Nat.le_trans (Nat.le_trans (Nat.le_trans (Nat.zero_le _) (E22).1) (Keep.of_wr W23).1) (E24).1) (E26).1) (K29q).1)) X34 hS2_34 hg_34 hZ hown
      obtain ⟨rfl, N34q, K34q, A34q, G34q⟩ := hQ34
      have N34 := Fr.app N29 N34q
      have K34 : Keep h0 T34.heap [] := (K29).trans K34q (allS (Or.inr sz_b24) all0)
      obtain ⟨cq35, kq35, q35a, q35b, q35c⟩ := isOf hZ34' rfl (Exa.ext (own_keep_ext K34) E_AMOUNT)
      obtain ⟨_, _, ⟨T35, L35, k35, n35⟩, -, X35, ⟨Lc35, hQ35, l35, y35, z35⟩, st35⟩ := X34'.virtualBack hx (y := (⟨"com/example/riscontro/riscontro/rules/Field", "takes", "(Lcom/example/riscontro/riscontro/rules/Token;)Z"⟩ : MethodName)) (z := (⟨"com/example/riscontro/riscontro/rules/Field", "takes", "(Lcom/example/riscontro/riscontro/rules/Token;)Z"⟩ : MethodName)) hown34' (mvT hZ34' (hw _ (List.mem_of_getElem? (i := 67) rfl))) (mvT hZ34' (hw _ (List.mem_of_getElem? (i := 68) rfl))) (notFace_of_selects (args := #[]) (mvT hZ34' (hw _ (List.mem_of_getElem? (i := 70) rfl)))) (mvT hZ34' (hw _ (List.mem_of_getElem? (i := 70) rfl))) (mvT hZ34' (hw _ (List.mem_of_getElem? (i := 69) rfl))) (by decide) (backOf (W := 0) (rmX l Z a0 hw [] w_AMOUNT b24 wN wN (1 : Int32) T34.heap n0 (Nat.le_trans Z0 K34.1) (Fld.ext (own_keep_ext K34) V_AMOUNT) G34q A34q (if_pos rfl)) hZ34' (hw _ (List.mem_of_getElem? (i := 71) rfl)) (hw _ (List.mem_of_getElem? (i := 6) rfl)) (by decide) (by decide)) q35a q35c (g := (mkF m 119 #[.val (.int p1), .val (.int p2), .val (.int p3), .val (.int p4), .val (.int (0 : Int32)), .val (.ref w_AMOUNT), .val (.int (1 : Int32)), .val (.ref wN), .val (.ref b22), .val (.ref b24), .val (.int (1 : Int32)), .val (.int (1 : Int32))] [(.ref b24), (.ref w_AMOUNT)])) rfl (by rw [hml]; rfl) (Steps.refl _) (argsL := [(.ref b24)]) (rest := []) (lenOf pd_rm0_3 rfl) rfl (by show 2 * 0 + _ ≤ _; exact Nat.le_of_eq rfl) (hb hby at_119) (fun _ _ => ⟨rfl, rfl, (by decide : 8 + 0 ≤ _), (by decide : 49 + 0 ≤ _)⟩)
      dsimp only [Pt.U, Pt.locs, Pt.cells, Pt.slots] at X35 l35 y35 z35 st35 hQ35
      subst l35 y35 z35
      obtain ⟨rfl, N35q, e35⟩ := hQ35
      have N35 := Fr.app N34 N35q
      obtain ⟨fs, hr, hrun, hended, hRW⟩ := Jvm.Stand.leaveW (s := s) (vm₁ := T34.vm) X35 hS34' (show _ ≤ T35.heap.size by rw [e35]; exact (Nat.le_refl T34.heap.size)) (v := some (.int (1 : Int32))) (fun h => by rw [Bd.returns] at h; cases h)
      refine ⟨_, _, pre4 _ ?_, hrun, hended, _, _, rfl, ?_, hRW.1, hRW.2.1, hRW.2.2.1, hRW.2.2.2.mono (by decide) (by decide)⟩
      · show Steps p.tables e below (T3.setTop (mkF m 19 #[.val (.int p1), .val (.int p2), .val (.int p3), .val (.int p4), .val (.int (0 : Int32)), .val (.ref w_AMOUNT), .unset, .unset, .unset, .unset, .unset, .unset] [(.int (p2 &&& (1 : Int32)))])) _
        refine XS.ifNo X3.here hx rfl (hb hby at_19) rfl ((if0 _ _).trans (feq hc5).1) ?_
        show Steps p.tables e below (T3.setTop (mkF m 22 #[.val (.int p1), .val (.int p2), .val (.int p3), .val (.int p4), .val (.int (0 : Int32)), .val (.ref w_AMOUNT), .unset, .unset, .unset, .unset, .unset, .unset] [])) _
        refine XS.iconst X3.here hx rfl (hb hby at_22) ?_
        show Steps p.tables e below (T3.setTop (mkF m 23 #[.val (.int p1), .val (.int p2), .val (.int p3), .val (.int p4), .val (.int (0 : Int32)), .val (.ref w_AMOUNT), .unset, .unset, .unset, .unset, .unset, .unset] [(.int (1 : Int32))])) _
        refine XS.goto X3.here hx rfl (pc0 := 23) (pc' := 27) rfl (hb hby at_23) (by decide) (by decide) ?_
        show Steps p.tables e below (T3.setTop (mkF m 27 #[.val (.int p1), .val (.int p2), .val (.int p3), .val (.int p4), .val (.int (0 : Int32)), .val (.ref w_AMOUNT), .unset, .unset, .unset, .unset, .unset, .unset] [(.int (1 : Int32))])) _
        refine XS.istore X3.here hx rfl (hb hby at_27) rfl (l' := #[.val (.int p1), .val (.int p2), .val (.int p3), .val (.int p4), .val (.int (0 : Int32)), .val (.ref w_AMOUNT), .val (.int (1 : Int32)), .unset, .unset, .unset, .unset, .unset]) rfl ?_
        show Steps p.tables e below (T3.setTop (mkF m 29 #[.val (.int p1), .val (.int p2), .val (.int p3), .val (.int p4), .val (.int (0 : Int32)), .val (.ref w_AMOUNT), .val (.int (1 : Int32)), .unset, .unset, .unset, .unset, .unset] [])) _
        refine XS.iload X3.here hx rfl (hb hby at_29) rfl ?_
        show Steps p.tables e below (T3.setTop (mkF m 31 #[.val (.int p1), .val (.int p2), .val (.int p3), .val (.int p4), .val (.int (0 : Int32)), .val (.ref w_AMOUNT), .val (.int (1 : Int32)), .unset, .unset, .unset, .unset, .unset] [(.int (1 : Int32))])) _
        refine XS.ifNo X3.here hx rfl (hb hby at_31) rfl ((if0 _ _).trans (feq (by decide : ¬ ((1 : Int32) = (0 : Int32)))).1) ?_
        show Steps p.tables e below (T3.setTop (mkF m 34 #[.val (.int p1), .val (.int p2), .val (.int p3), .val (.int p4), .val (.int (0 : Int32)), .val (.ref w_AMOUNT), .val (.int (1 : Int32)), .unset, .unset, .unset, .unset, .unset] [])) _
        refine st21 _ ?_
        show Steps p.tables e below (T21.setTop (mkF m 37 #[.val (.int p1), .val (.int p2), .val (.int p3), .val (.int p4), .val (.int (0 : Int32)), .val (.ref w_AMOUNT), .val (.int (1 : Int32)), .unset, .unset, .unset, .unset, .unset] [(.ref wN)])) _
        refine XS.goto X21.here hx rfl (pc0 := 37) (pc' := 43) rfl (hb hby at_37) (by decide) (by decide) ?_
        show Steps p.tables e below (T21.setTop (mkF m 43 #[.val (.int p1), .val (.int p2), .val (.int p3), .val (.int p4), .val (.int (0 : Int32)), .val (.ref w_AMOUNT), .val (.int (1 : Int32)), .unset, .unset, .unset, .unset, .unset] [(.ref wN)])) _
        refine XS.astore X21.here hx rfl (hb hby at_43) rfl rfl (l' := #[.val (.int p1), .val (.int p2), .val (.int p3), .val (.int p4), .val (.int (0 : Int32)), .val (.ref w_AMOUNT), .val (.int (1 : Int32)), .val (.ref wN), .unset, .unset, .unset, .unset]) rfl ?_
        show Steps p.tables e below (T21.setTop (mkF m 45 #[.val (.int p1), .val (.int p2), .val (.int p3), .val (.int p4), .val (.int (0 : Int32)), .val (.ref w_AMOUNT), .val (.int (1 : Int32)), .val (.ref wN), .unset, .unset, .unset, .unset] [])) _
        refine XS.iconst X21.here hx rfl (hb hby at_45) ?_
        show Steps p.tables e below (T21.setTop (mkF m 46 #[.val (.int p1), .val (.int p2), .val (.int p3), .val (.int p4), .val (.int (0 : Int32)), .val (.ref w_AMOUNT), .val (.int (1 : Int32)), .val (.ref wN), .unset, .unset, .unset, .unset] [(.int (1 : Int32))])) _
        refine st22 _ ?_
        show Steps p.tables e below (T22.setTop (mkF m 48 #[.val (.int p1), .val (.int p2), .val (.int p3), .val (.int p4), .val (.int (0 : Int32)), .val (.ref w_AMOUNT), .val (.int (1 : Int32)), .val (.ref wN), .unset, .unset, .unset, .unset] [(.ref b22)])) _
        refine XS.dup X22.here hx rfl (hb hby at_48) rfl rfl ?_
        show Steps p.tables e below (T22.setTop (mkF m 49 #[.val (.int p1), .val (.int p2), .val (.int p3), .val (.int p4), .val (.int (0 : Int32)), .val (.ref w_AMOUNT), .val (.int (1 : Int32)), .val (.ref wN), .unset, .unset, .unset, .unset] [(.ref b22), (.ref b22)])) _
        refine XS.iconst X22.here hx rfl (hb hby at_49) ?_
        show Steps p.tables e below (T22.setTop (mkF m 50 #[.val (.int p1), .val (.int p2), .val (.int p3), .val (.int p4), .val (.int (0 : Int32)), .val (.ref w_AMOUNT), .val (.int (1 : Int32)), .val (.ref wN), .unset, .unset, .unset, .unset] [(.int (0 : Int32)), (.ref b22), (.ref b22)])) _
        refine XS.iloadN X22.here hx rfl (hb hby at_50) rfl ?_
        show Steps p.tables e below (T22.setTop (mkF m 51 #[.val (.int p1), .val (.int p2), .val (.int p3), .val (.int p4), .val (.int (0 : Int32)), .val (.ref w_AMOUNT), .val (.int (1 : Int32)), .val (.ref wN), .unset, .unset, .unset, .unset] [(.int p3), (.int (0 : Int32)), (.ref b22), (.ref b22)])) _
        refine XS.sipush X22.here hx rfl (hb hby at_51) ?_
        show Steps p.tables e below (T22.setTop (mkF m 54 #[.val (.int p1), .val (.int p2), .val (.int p3), .val (.int p4), .val (.int (0 : Int32)), .val (.ref w_AMOUNT), .val (.int (1 : Int32)), .val (.ref wN), .unset, .unset, .unset, .unset] [(.int (255 : Int32)), (.int p3), (.int (0 : Int32)), (.ref b22), (.ref b22)])) _
        refine XS.iand X22.here hx rfl (hb hby at_54) rfl ?_
        show Steps p.tables e below (T22.setTop (mkF m 55 #[.val (.int p1), .val (.int p2), .val (.int p3), .val (.int p4), .val (.int (0 : Int32)), .val (.ref w_AMOUNT), .val (.int (1 : Int32)), .val (.ref wN), .unset, .unset, .unset, .unset] [(.int (p3 &&& (255 : Int32))), (.int (0 : Int32)), (.ref b22), (.ref b22)])) _
        refine XS.i2c X22.here hx rfl (hb hby at_55) rfl ?_
        show Steps p.tables e below (T22.setTop (mkF m 56 #[.val (.int p1), .val (.int p2), .val (.int p3), .val (.int p4), .val (.int (0 : Int32)), .val (.ref w_AMOUNT), .val (.int (1 : Int32)), .val (.ref wN), .unset, .unset, .unset, .unset] [(.int ((p3 &&& (255 : Int32)).toUInt32.toUInt16.toUInt32.toInt32)), (.int (0 : Int32)), (.ref b22), (.ref b22)])) _
        refine st23 _ ?_
        show Steps p.tables e below (T23.setTop (mkF m 57 #[.val (.int p1), .val (.int p2), .val (.int p3), .val (.int p4), .val (.int (0 : Int32)), .val (.ref w_AMOUNT), .val (.int (1 : Int32)), .val (.ref wN), .unset, .unset, .unset, .unset] [(.ref b22)])) _
        refine XS.astore X23.here hx rfl (hb hby at_57) rfl rfl (l' := #[.val (.int p1), .val (.int p2), .val (.int p3), .val (.int p4), .val (.int (0 : Int32)), .val (.ref w_AMOUNT), .val (.int (1 : Int32)), .val (.ref wN), .val (.ref b22), .unset, .unset, .unset]) rfl ?_
        show Steps p.tables e below (T23.setTop (mkF m 59 #[.val (.int p1), .val (.int p2), .val (.int p3), .val (.int p4), .val (.int (0 : Int32)), .val (.ref w_AMOUNT), .val (.int (1 : Int32)), .val (.ref wN), .val (.ref b22), .unset, .unset, .unset] [])) _
        refine st24 _ ?_
        show Steps p.tables e below (T24.setTop (mkF m 62 #[.val (.int p1), .val (.int p2), .val (.int p3), .val (.int p4), .val (.int (0 : Int32)), .val (.ref w_AMOUNT), .val (.int (1 : Int32)), .val (.ref wN), .val (.ref b22), .unset, .unset, .unset] [(.ref b24)])) _
        refine XS.dup X24.here hx rfl (hb hby at_62) rfl rfl ?_
        show Steps p.tables e below (T24.setTop (mkF m 63 #[.val (.int p1), .val (.int p2), .val (.int p3), .val (.int p4), .val (.int (0 : Int32)), .val (.ref w_AMOUNT), .val (.int (1 : Int32)), .val (.ref wN), .val (.ref b22), .unset, .unset, .unset] [(.ref b24), (.ref b24)])) _
        refine XS.aload X24.here hx rfl (hb hby at_63) rfl rfl ?_
        show Steps p.tables e below (T24.setTop (mkF m 65 #[.val (.int p1), .val (.int p2), .val (.int p3), .val (.int p4), .val (.int (0 : Int32)), .val (.ref w_AMOUNT), .val (.int (1 : Int32)), .val (.ref wN), .val (.ref b22), .unset, .unset, .unset] [(.ref wN), (.ref b24), (.ref b24)])) _
        refine st26 _ ?_
        show Steps p.tables e below (T26.setTop (mkF m 68 #[.val (.int p1), .val (.int p2), .val (.int p3), .val (.int p4), .val (.int (0 : Int32)), .val (.ref w_AMOUNT), .val (.int (1 : Int32)), .val (.ref wN), .val (.ref b22), .unset, .unset, .unset] [(.ref b26), (.ref wN), (.ref b24), (.ref b24)])) _
        refine XS.dup X26.here hx rfl (hb hby at_68) rfl rfl ?_
        show Steps p.tables e below (T26.setTop (mkF m 69 #[.val (.int p1), .val (.int p2), .val (.int p3), .val (.int p4), .val (.int (0 : Int32)), .val (.ref w_AMOUNT), .val (.int (1 : Int32)), .val (.ref wN), .val (.ref b22), .unset, .unset, .unset] [(.ref b26), (.ref b26), (.ref wN), (.ref b24), (.ref b24)])) _
        refine XS.aload X26.here hx rfl (hb hby at_69) rfl rfl ?_
        show Steps p.tables e below (T26.setTop (mkF m 71 #[.val (.int p1), .val (.int p2), .val (.int p3), .val (.int p4), .val (.int (0 : Int32)), .val (.ref w_AMOUNT), .val (.int (1 : Int32)), .val (.ref wN), .val (.ref b22), .unset, .unset, .unset] [(.ref b22), (.ref b26), (.ref b26), (.ref wN), (.ref b24), (.ref b24)])) _
        refine st29.trans ?_
        show Steps p.tables e below (T29.setTop (mkF m 74 #[.val (.int p1), .val (.int p2), .val (.int p3), .val (.int p4), .val (.int (0 : Int32)), .val (.ref w_AMOUNT), .val (.int (1 : Int32)), .val (.ref wN), .val (.ref b22), .unset, .unset, .unset] [(.ref b26), (.ref wN), (.ref b24), (.ref b24)])) _
        refine XS.iloadN X29.here hx rfl (hb hby at_74) rfl ?_
        show Steps p.tables e below (T29.setTop (mkF m 75 #[.val (.int p1), .val (.int p2), .val (.int p3), .val (.int p4), .val (.int (0 : Int32)), .val (.ref w_AMOUNT), .val (.int (1 : Int32)), .val (.ref wN), .val (.ref b22), .unset, .unset, .unset] [(.int p4), (.ref b26), (.ref wN), (.ref b24), (.ref b24)])) _
        refine X29.ldcInt hx hown (mvT hZ (hw _ (List.mem_of_getElem? (i := 0) rfl))) (g := (mkF m 75 #[.val (.int p1), .val (.int p2), .val (.int p3), .val (.int p4), .val (.int (0 : Int32)), .val (.ref w_AMOUNT), .val (.int (1 : Int32)), .val (.ref wN), .val (.ref b22), .unset, .unset, .unset] [(.int p4), (.ref b26), (.ref wN), (.ref b24), (.ref b24)])) rfl (hb hby at_75) _ ?_
        show Steps p.tables e below (T29.setTop (mkF m 77 #[.val (.int p1), .val (.int p2), .val (.int p3), .val (.int p4), .val (.int (0 : Int32)), .val (.ref w_AMOUNT), .val (.int (1 : Int32)), .val (.ref wN), .val (.ref b22), .unset, .unset, .unset] [(.int (2147483647 : Int32)), (.int p4), (.ref b26), (.ref wN), (.ref b24), (.ref b24)])) _
        refine XS.iand X29.here hx rfl (hb hby at_77) rfl ?_
        show Steps p.tables e below (T29.setTop (mkF m 78 #[.val (.int p1), .val (.int p2), .val (.int p3), .val (.int p4), .val (.int (0 : Int32)), .val (.ref w_AMOUNT), .val (.int (1 : Int32)), .val (.ref wN), .val (.ref b22), .unset, .unset, .unset] [(.int (p4 &&& (2147483647 : Int32))), (.ref b26), (.ref wN), (.ref b24), (.ref b24)])) _
        refine st34.trans ?_
        show Steps p.tables e below (T34.setTop (mkF m 81 #[.val (.int p1), .val (.int p2), .val (.int p3), .val (.int p4), .val (.int (0 : Int32)), .val (.ref w_AMOUNT), .val (.int (1 : Int32)), .val (.ref wN), .val (.ref b22), .unset, .unset, .unset] [(.ref b24)])) _
        refine XS.astore X34'.here hx rfl (hb hby at_81) rfl rfl (l' := #[.val (.int p1), .val (.int p2), .val (.int p3), .val (.int p4), .val (.int (0 : Int32)), .val (.ref w_AMOUNT), .val (.int (1 : Int32)), .val (.ref wN), .val (.ref b22), .val (.ref b24), .unset, .unset]) rfl ?_
        show Steps p.tables e below (T34.setTop (mkF m 83 #[.val (.int p1), .val (.int p2), .val (.int p3), .val (.int p4), .val (.int (0 : Int32)), .val (.ref w_AMOUNT), .val (.int (1 : Int32)), .val (.ref wN), .val (.ref b22), .val (.ref b24), .unset, .unset] [])) _
        refine XS.iload X34'.here hx rfl (hb hby at_83) rfl ?_
        show Steps p.tables e below (T34.setTop (mkF m 85 #[.val (.int p1), .val (.int p2), .val (.int p3), .val (.int p4), .val (.int (0 : Int32)), .val (.ref w_AMOUNT), .val (.int (1 : Int32)), .val (.ref wN), .val (.ref b22), .val (.ref b24), .unset, .unset] [(.int (0 : Int32))])) _
        refine XS.ifYes X34'.here hx rfl (pc0 := 85) (pc' := 94) rfl (hb hby at_85) rfl ((if0 _ _).trans (teq (rfl : (0 : Int32) = (0 : Int32))).1) (by decide) (by decide) ?_
        show Steps p.tables e below (T34.setTop (mkF m 94 #[.val (.int p1), .val (.int p2), .val (.int p3), .val (.int p4), .val (.int (0 : Int32)), .val (.ref w_AMOUNT), .val (.int (1 : Int32)), .val (.ref wN), .val (.ref b22), .val (.ref b24), .unset, .unset] [])) _
        refine XS.iconst X34'.here hx rfl (hb hby at_94) ?_
        show Steps p.tables e below (T34.setTop (mkF m 95 #[.val (.int p1), .val (.int p2), .val (.int p3), .val (.int p4), .val (.int (0 : Int32)), .val (.ref w_AMOUNT), .val (.int (1 : Int32)), .val (.ref wN), .val (.ref b22), .val (.ref b24), .unset, .unset] [(.int (1 : Int32))])) _
        refine XS.goto X34'.here hx rfl (pc0 := 95) (pc' := 99) rfl (hb hby at_95) (by decide) (by decide) ?_
        show Steps p.tables e below (T34.setTop (mkF m 99 #[.val (.int p1), .val (.int p2), .val (.int p3), .val (.int p4), .val (.int (0 : Int32)), .val (.ref w_AMOUNT), .val (.int (1 : Int32)), .val (.ref wN), .val (.ref b22), .val (.ref b24), .unset, .unset] [(.int (1 : Int32))])) _
        refine XS.istore X34'.here hx rfl (hb hby at_99) rfl (l' := #[.val (.int p1), .val (.int p2), .val (.int p3), .val (.int p4), .val (.int (0 : Int32)), .val (.ref w_AMOUNT), .val (.int (1 : Int32)), .val (.ref wN), .val (.ref b22), .val (.ref b24), .val (.int (1 : Int32)), .unset]) rfl ?_
        show Steps p.tables e below (T34.setTop (mkF m 101 #[.val (.int p1), .val (.int p2), .val (.int p3), .val (.int p4), .val (.int (0 : Int32)), .val (.ref w_AMOUNT), .val (.int (1 : Int32)), .val (.ref wN), .val (.ref b22), .val (.ref b24), .val (.int (1 : Int32)), .unset] [])) _
        refine XS.iload X34'.here hx rfl (hb hby at_101) rfl ?_
        show Steps p.tables e below (T34.setTop (mkF m 103 #[.val (.int p1), .val (.int p2), .val (.int p3), .val (.int p4), .val (.int (0 : Int32)), .val (.ref w_AMOUNT), .val (.int (1 : Int32)), .val (.ref wN), .val (.ref b22), .val (.ref b24), .val (.int (1 : Int32)), .unset] [(.int (1 : Int32))])) _
        refine XS.iload X34'.here hx rfl (hb hby at_103) rfl ?_
        show Steps p.tables e below (T34.setTop (mkF m 105 #[.val (.int p1), .val (.int p2), .val (.int p3), .val (.int p4), .val (.int (0 : Int32)), .val (.ref w_AMOUNT), .val (.int (1 : Int32)), .val (.ref wN), .val (.ref b22), .val (.ref b24), .val (.int (1 : Int32)), .unset] [(.int (1 : Int32)), (.int (1 : Int32))])) _
        refine XS.icmpNo X34'.here hx rfl (hb hby at_105) rfl (teq (rfl : (1 : Int32) = (1 : Int32))).2 ?_
        show Steps p.tables e below (T34.setTop (mkF m 108 #[.val (.int p1), .val (.int p2), .val (.int p3), .val (.int p4), .val (.int (0 : Int32)), .val (.ref w_AMOUNT), .val (.int (1 : Int32)), .val (.ref wN), .val (.ref b22), .val (.ref b24), .val (.int (1 : Int32)), .unset] [])) _
        refine XS.iconst X34'.here hx rfl (hb hby at_108) ?_
        show Steps p.tables e below (T34.setTop (mkF m 109 #[.val (.int p1), .val (.int p2), .val (.int p3), .val (.int p4), .val (.int (0 : Int32)), .val (.ref w_AMOUNT), .val (.int (1 : Int32)), .val (.ref wN), .val (.ref b22), .val (.ref b24), .val (.int (1 : Int32)), .unset] [(.int (1 : Int32))])) _
        refine XS.goto X34'.here hx rfl (pc0 := 109) (pc' := 113) rfl (hb hby at_109) (by decide) (by decide) ?_
        show Steps p.tables e below (T34.setTop (mkF m 113 #[.val (.int p1), .val (.int p2), .val (.int p3), .val (.int p4), .val (.int (0 : Int32)), .val (.ref w_AMOUNT), .val (.int (1 : Int32)), .val (.ref wN), .val (.ref b22), .val (.ref b24), .val (.int (1 : Int32)), .unset] [(.int (1 : Int32))])) _
        refine XS.istore X34'.here hx rfl (hb hby at_113) rfl (l' := #[.val (.int p1), .val (.int p2), .val (.int p3), .val (.int p4), .val (.int (0 : Int32)), .val (.ref w_AMOUNT), .val (.int (1 : Int32)), .val (.ref wN), .val (.ref b22), .val (.ref b24), .val (.int (1 : Int32)), .val (.int (1 : Int32))]) rfl ?_
        show Steps p.tables e below (T34.setTop (mkF m 115 #[.val (.int p1), .val (.int p2), .val (.int p3), .val (.int p4), .val (.int (0 : Int32)), .val (.ref w_AMOUNT), .val (.int (1 : Int32)), .val (.ref wN), .val (.ref b22), .val (.ref b24), .val (.int (1 : Int32)), .val (.int (1 : Int32))] [])) _
        refine XS.aload X34'.here hx rfl (hb hby at_115) rfl rfl ?_
        show Steps p.tables e below (T34.setTop (mkF m 117 #[.val (.int p1), .val (.int p2), .val (.int p3), .val (.int p4), .val (.int (0 : Int32)), .val (.ref w_AMOUNT), .val (.int (1 : Int32)), .val (.ref wN), .val (.ref b22), .val (.ref b24), .val (.int (1 : Int32)), .val (.int (1 : Int32))] [(.ref w_AMOUNT)])) _
        refine XS.aload X34'.here hx rfl (hb hby at_117) rfl rfl ?_
        show Steps p.tables e below (T34.setTop (mkF m 119 #[.val (.int p1), .val (.int p2), .val (.int p3), .val (.int p4), .val (.int (0 : Int32)), .val (.ref w_AMOUNT), .val (.int (1 : Int32)), .val (.ref wN), .val (.ref b22), .val (.ref b24), .val (.int (1 : Int32)), .val (.int (1 : Int32))] [(.ref b24), (.ref w_AMOUNT)])) _
        refine st35.trans ?_
        show Steps p.tables e below (T35.setTop (mkF m 122 #[.val (.int p1), .val (.int p2), .val (.int p3), .val (.int p4), .val (.int (0 : Int32)), .val (.ref w_AMOUNT), .val (.int (1 : Int32)), .val (.ref wN), .val (.ref b22), .val (.ref b24), .val (.int (1 : Int32)), .val (.int (1 : Int32))] [(.int (1 : Int32))])) _
        refine XS.iload X35.here hx rfl (hb hby at_122) rfl ?_
        show Steps p.tables e below (T35.setTop (mkF m 124 #[.val (.int p1), .val (.int p2), .val (.int p3), .val (.int p4), .val (.int (0 : Int32)), .val (.ref w_AMOUNT), .val (.int (1 : Int32)), .val (.ref wN), .val (.ref b22), .val (.ref b24), .val (.int (1 : Int32)), .val (.int (1 : Int32))] [(.int (1 : Int32)), (.int (1 : Int32))])) _
        refine XS.icmpNo X35.here hx rfl (hb hby at_124) rfl (teq (rfl : (1 : Int32) = (1 : Int32))).2 ?_
        show Steps p.tables e below (T35.setTop (mkF m 127 #[.val (.int p1), .val (.int p2), .val (.int p3), .val (.int p4), .val (.int (0 : Int32)), .val (.ref w_AMOUNT), .val (.int (1 : Int32)), .val (.ref wN), .val (.ref b22), .val (.ref b24), .val (.int (1 : Int32)), .val (.int (1 : Int32))] [])) _
        refine XS.iconst X35.here hx rfl (hb hby at_127) ?_
        show Steps p.tables e below (T35.setTop (mkF m 128 #[.val (.int p1), .val (.int p2), .val (.int p3), .val (.int p4), .val (.int (0 : Int32)), .val (.ref w_AMOUNT), .val (.int (1 : Int32)), .val (.ref wN), .val (.ref b22), .val (.ref b24), .val (.int (1 : Int32)), .val (.int (1 : Int32))] [(.int (1 : Int32))])) _
        refine XS.goto X35.here hx rfl (pc0 := 128) (pc' := 132) rfl (hb hby at_128) (by decide) (by decide) ?_
        show Steps p.tables e below (T35.setTop (mkF m 132 #[.val (.int p1), .val (.int p2), .val (.int p3), .val (.int p4), .val (.int (0 : Int32)), .val (.ref w_AMOUNT), .val (.int (1 : Int32)), .val (.ref wN), .val (.ref b22), .val (.ref b24), .val (.int (1 : Int32)), .val (.int (1 : Int32))] [(.int (1 : Int32))])) _
        exact retN X35 hx (t := .boolean) Bd.returns (by simp) (hb hby at_132) hr
      · show Q_rm0 Z p1 p2 p3 p4 w_AMOUNT w_CURRENCY w_MERCHANT_ID w_IP_ADDRESS w_DEVICE_ID w_USER_AGE w_USER_REGION wN wS zc h0 n0 _ T35.heap _
        rw [e35]
        exact ⟨rfl, N35⟩
  · have pre36 : ∀ t, Steps p.tables e below (s₁.setTop (mkF m 7 #[.val (.int p1), .val (.int p2), .val (.int p3), .val (.int p4), .unset, .unset, .unset, .unset, .unset, .unset, .unset, .unset] [(.int (1 : Int32))])) t → Steps p.tables e below (s₁.setTop (entryFrame m #[(.int p1), (.int p2), (.int p3), (.int p4)] maxLocals)) t := fun t k => pre1 t (by rw [hk]; exact k)
    obtain ⟨_, _, ⟨T37, L37, k37, n37⟩, -, X37, ⟨Lc37, hQ37, l37, y37, z37⟩, st37⟩ := Jvm.LawKit.callS X0 hx (y := (⟨"com/example/riscontro/riscontro/rules/FieldTakesPinLaw", "pick", "(I)Lcom/example/riscontro/riscontro/rules/Field;"⟩ : MethodName)) hown (mvT hZ (hw _ (List.mem_of_getElem? (i := 1) rfl))) (mvT hZ (hw _ (List.mem_of_getElem? (i := 2) rfl))) (mvT hZ (hw _ (List.mem_of_getElem? (i := 3) rfl))) (mvT hZ (hw _ (List.mem_of_getElem? (i := 4) rfl))) (by decide) (backOf (W := 0) (rm1 l Z a0 hw [] (1 : Int32) w_AMOUNT w_CURRENCY w_MERCHANT_ID w_IP_ADDRESS w_DEVICE_ID w_USER_AGE w_USER_REGION w_CURRENCY h0 n0 Z0 S_AMOUNT S_CURRENCY S_MERCHANT_ID S_IP_ADDRESS S_DEVICE_ID S_USER_AGE S_USER_REGION rfl) hZ (hw _ (List.mem_of_getElem? (i := 4) rfl)) (hw _ (List.mem_of_getElem? (i := 3) rfl)) (by decide) (by decide)) (g := (mkF m 11 #[.val (.int p1), .val (.int p2), .val (.int p3), .val (.int p4), .val (.int (1 : Int32)), .unset, .unset, .unset, .unset, .unset, .unset, .unset] [(.int (1 : Int32))])) rfl (by rw [hml]; rfl) (argsL := [(.int (1 : Int32))]) (rest := []) (lenOf pd_rm0_0 rfl) rfl (by show 2 * 0 + _ ≤ _; exact Nat.le_of_eq rfl) (hb hby at_11) (fun _ _ => ⟨rfl, e0, (by decide : 0 + 0 ≤ _), (by decide : 0 + 0 ≤ _)⟩)
    dsimp only [Pt.U, Pt.locs, Pt.cells, Pt.slots] at X37 l37 y37 z37 st37 hQ37
    subst l37 y37 z37
    obtain ⟨rfl, N37q, e37⟩ := hQ37
    have N37 := Fr.app N0 N37q
    have pre38 : ∀ t, Steps p.tables e below (T37.setTop (mkF m 19 #[.val (.int p1), .val (.int p2), .val (.int p3), .val (.int p4), .val (.int (1 : Int32)), .val (.ref w_CURRENCY), .unset, .unset, .unset, .unset, .unset, .unset] [(.int (p2 &&& (1 : Int32)))])) t → Steps p.tables e below (s₁.setTop (entryFrame m #[(.int p1), (.int p2), (.int p3), (.int p4)] maxLocals)) t := fun t k => pre36 t (by
        show Steps p.tables e below (s₁.setTop (mkF m 7 #[.val (.int p1), .val (.int p2), .val (.int p3), .val (.int p4), .unset, .unset, .unset, .unset, .unset, .unset, .unset, .unset] [(.int (1 : Int32))])) _
        refine XS.istore X0.here hx rfl (hb hby at_7) rfl (l' := #[.val (.int p1), .val (.int p2), .val (.int p3), .val (.int p4), .val (.int (1 : Int32)), .unset, .unset, .unset, .unset, .unset, .unset, .unset]) rfl ?_
        show Steps p.tables e below (s₁.setTop (mkF m 9 #[.val (.int p1), .val (.int p2), .val (.int p3), .val (.int p4), .val (.int (1 : Int32)), .unset, .unset, .unset, .unset, .unset, .unset, .unset] [])) _
        refine XS.iload X0.here hx rfl (hb hby at_9) rfl ?_
        show Steps p.tables e below (s₁.setTop (mkF m 11 #[.val (.int p1), .val (.int p2), .val (.int p3), .val (.int p4), .val (.int (1 : Int32)), .unset, .unset, .unset, .unset, .unset, .unset, .unset] [(.int (1 : Int32))])) _
        refine st37 _ ?_
        show Steps p.tables e below (T37.setTop (mkF m 14 #[.val (.int p1), .val (.int p2), .val (.int p3), .val (.int p4), .val (.int (1 : Int32)), .unset, .unset, .unset, .unset, .unset, .unset, .unset] [(.ref w_CURRENCY)])) _
        refine XS.astore X37.here hx rfl (hb hby at_14) rfl rfl (l' := #[.val (.int p1), .val (.int p2), .val (.int p3), .val (.int p4), .val (.int (1 : Int32)), .val (.ref w_CURRENCY), .unset, .unset, .unset, .unset, .unset, .unset]) rfl ?_
        show Steps p.tables e below (T37.setTop (mkF m 16 #[.val (.int p1), .val (.int p2), .val (.int p3), .val (.int p4), .val (.int (1 : Int32)), .val (.ref w_CURRENCY), .unset, .unset, .unset, .unset, .unset, .unset] [])) _
        refine XS.iloadN X37.here hx rfl (hb hby at_16) rfl ?_
        show Steps p.tables e below (T37.setTop (mkF m 17 #[.val (.int p1), .val (.int p2), .val (.int p3), .val (.int p4), .val (.int (1 : Int32)), .val (.ref w_CURRENCY), .unset, .unset, .unset, .unset, .unset, .unset] [(.int p2)])) _
        refine XS.iconst X37.here hx rfl (hb hby at_17) ?_
        show Steps p.tables e below (T37.setTop (mkF m 18 #[.val (.int p1), .val (.int p2), .val (.int p3), .val (.int p4), .val (.int (1 : Int32)), .val (.ref w_CURRENCY), .unset, .unset, .unset, .unset, .unset, .unset] [(.int (1 : Int32)), (.int p2)])) _
        refine XS.iand X37.here hx rfl (hb hby at_18) rfl ?_
        exact k)
    by_cases hc39 : (p2 &&& (1 : Int32)) = (0 : Int32)
    · obtain ⟨T40, X40, e40, st40⟩ := getS2 X37 hx hZ hown (host := "") (Or.inl (hw _ (List.mem_of_getElem? (i := 84) rfl))) Via.refl e37 S_STRING (g := (mkF m 40 #[.val (.int p1), .val (.int p2), .val (.int p3), .val (.int p4), .val (.int (1 : Int32)), .val (.ref w_CURRENCY), .val (.int (0 : Int32)), .unset, .unset, .unset, .unset, .unset] [])) rfl (hb hby at_40)
      obtain ⟨T41, h41, k41, X41, e41, E41, A41, st41⟩ := newP X40 hx hZ (hw _ (List.mem_of_getElem? (i := 11) rfl)) e40 (g := (mkF m 46 #[.val (.int p1), .val (.int p2), .val (.int p3), .val (.int p4), .val (.int (1 : Int32)), .val (.ref w_CURRENCY), .val (.int (0 : Int32)), .val (.ref wS), .unset, .unset, .unset, .unset] [(.int (1 : Int32))])) rfl (hb hby at_46) rfl (by decide) (cap := 1) (by decide) (by decide) (by decide) (by decide)
      obtain ⟨b41, g41⟩ : ∃ z, z = h0.size := ⟨_, rfl⟩
      rw [← g41] at A41 st41
      have V_b41 : Arv Z h41 b41 k41 .char (1 : Int32) [(.int (0 : Int32))] (.int (0 : Int32)) := (Arv.new A41 (by decide)).pad (pad_rep [] (.int (0 : Int32)) 1)
      have g_b41 : n0 ≤ b41 := Nat.le_trans Z0 (Nat.le_of_eq g41.symm)
      have sz_b41 : h0.size ≤ b41 := Nat.le_trans ((Keep.refl h0 [])).1 (Nat.le_of_eq g41.symm)
      have K41 : Keep h0 h41 [] := ((Keep.refl h0 [])).ext E41
      obtain ⟨cl42, Ar42, q42, S42, N42_, H42, G42⟩ := id V_b41
      obtain ⟨T42, h42, X42, e42, W42, st42⟩ := stC X41 hx hZ e41 Ar42 (j := (0 : Int32)) (inb_of S42 ⟨by decide, by decide⟩) (g := (mkF m 56 #[.val (.int p1), .val (.int p2), .val (.int p3), .val (.int p4), .val (.int (1 : Int32)), .val (.ref w_CURRENCY), .val (.int (0 : Int32)), .val (.ref wS), .unset, .unset, .unset, .unset] [(.int ((p3 &&& (255 : Int32)).toUInt32.toUInt16.toUInt32.toInt32)), (.int (0 : Int32)), (.ref b41), (.ref b41)])) rfl rfl (hb hby at_56)
      have V42 := Arv.set Ar42 q42 S42 N42_ H42 G42 (fits_nar_char _) W42 0 rfl (Nat.le_of_ble_eq_true rfl)
      have K42 : Keep h0 h42 [] := (K41).wr W42 (Or.inr sz_b41)
      have N42 := Fr.snoc X42 N37 g_b41
      obtain ⟨T43, h43, X43, e43, E43, A43, D43, -, st43⟩ := newO X42 hx hZ hown (hw _ (List.mem_of_getElem? (i := 12) rfl)) (hw _ (List.mem_of_getElem? (i := 13) rfl)) (hw _ (List.mem_of_getElem? (i := 14) rfl)) e42 (g := (mkF m 59 #[.val (.int p1), .val (.int p2), .val (.int p3), .val (.int p4), .val (.int (1 : Int32)), .val (.ref w_CURRENCY), .val (.int (0 : Int32)), .val (.ref wS), .val (.ref b41), .unset, .unset, .unset] [])) rfl (hb hby at_59) (by decide) (by decide)
      obtain ⟨b43, g43⟩ : ∃ z, z = h42.size := ⟨_, rfl⟩
      rw [← g43] at A43 D43 st43
      have ne_b41_b43 : b41 ≠ b43 := Nat.ne_of_lt (Nat.lt_of_lt_of_le V42.lt (Nat.le_of_eq g43.symm))
      have g_b43 : n0 ≤ b43 := Nat.le_trans (Nat.le_trans Z0 K42.1) (Nat.le_of_eq g43.symm)
      have sz_b43 : h0.size ≤ b43 := Nat.le_trans (K42).1 (Nat.le_of_eq g43.symm)
      have K43 : Keep h0 h43 [] := (K42).ext E43
      have F43_kind : Fld Z h43 b43 "com/example/riscontro/riscontro/rules/Token" "kind" "Lcom/example/riscontro/riscontro/rules/Token$Kind;" .null := D43 (Or.inr (hw _ (List.mem_of_getElem? (i := 62) rfl))) (ty := (.object "com/example/riscontro/riscontro/rules/Token$Kind")) (by decide)
      have F43_text : Fld Z h43 b43 "com/example/riscontro/riscontro/rules/Token" "text" "Ljava/lang/String;" .null := D43 (Or.inr (hw _ (List.mem_of_getElem? (i := 64) rfl))) (ty := (.object "java/lang/String")) (by decide)
      have F43_start : Fld Z h43 b43 "com/example/riscontro/riscontro/rules/Token" "start" "I" (.int (0 : Int32)) := D43 (Or.inr (hw _ (List.mem_of_getElem? (i := 66) rfl))) (ty := .int) (by decide)
      have f44 := (V42.ext E43)
      obtain ⟨T45, h45, X45, e45, E45, A45, D45, -, st45⟩ := newO X43 hx hZ hown (hw _ (List.mem_of_getElem? (i := 15) rfl)) (hw _ (List.mem_of_getElem? (i := 16) rfl)) (hw _ (List.mem_of_getElem? (i := 17) rfl)) e43 (g := (mkF m 65 #[.val (.int p1), .val (.int p2), .val (.int p3), .val (.int p4), .val (.int (1 : Int32)), .val (.ref w_CURRENCY), .val (.int (0 : Int32)), .val (.ref wS), .val (.ref b41), .unset, .unset, .unset] [(.ref wS), (.ref b43), (.ref b43)])) rfl (hb hby at_65) (by decide) (by decide)
      obtain ⟨b45, g45⟩ : ∃ z, z = h43.size := ⟨_, rfl⟩
      rw [← g45] at A45 D45 st45
      have ne_b41_b45 : b41 ≠ b45 := Nat.ne_of_lt (Nat.lt_of_lt_of_le f44.lt (Nat.le_of_eq g45.symm))
      have ne_b43_b45 : b43 ≠ b45 := Nat.ne_of_lt (Nat.lt_of_lt_of_le A43.lt (Nat.le_of_eq g45.symm))
      have g_b45 : n0 ≤ b45 := Nat.le_trans (Nat.le_trans Z0 K43.1) (Nat.le_of_eq g45.symm)
      have sz_b45 : h0.size ≤ b45 := Nat.le_trans (K43).1 (Nat.le_of_eq g45.symm)
      have K45 : Keep h0 h45 [] := (K43).ext E45
      have F45_coder : Fld Z h45 b45 "java/lang/String" "coder" "B" (.int (0 : Int32)) := D45 (Or.inr (hw _ (List.mem_of_getElem? (i := 41) rfl))) (ty := .byte) (by decide)
      have F45_value : Fld Z h45 b45 "java/lang/String" "value" "[B" .null := D45 (Or.inr (hw _ (List.mem_of_getElem? (i := 43) rfl))) (ty := (.array .byte)) (by decide)
      have f46 := (f44.ext E45)
      have V47 : Arv Z h45 b41 _ .char (1 : Int32) (([nar .char ((p3 &&& (255 : Int32)).toUInt32.toUInt16.toUInt32.toInt32)] : List Int32).map Value.int) (.int (0 : Int32)) := f46
      have hws : ∀ d ∈ StrChars.Road.words, d.before a0 Z = true := fun d hd => hw d ((by decide +kernel : ∀ d ∈ StrChars.Road.words, d ∈ tables_1) d hd)
      obtain ⟨_, _, ⟨T48, L48, k48, n48⟩, -, X48, ⟨Lc48, hQ48, l48, y48, z48⟩, st48⟩ := X45.specialBack hx (y := (⟨"java/lang/String", "<init>", "([C)V"⟩ : MethodName)) rfl hown (mvT hZ (hw _ (List.mem_of_getElem? (i := 18) rfl))) (mvT hZ (hw _ (List.mem_of_getElem? (i := 19) rfl))) (mvT hZ (hw _ (List.mem_of_getElem? (i := 20) rfl))) (by decide) (StrChars.Road.backV (W := 4) hZ hws (kI := 4) (hw _ (List.mem_of_getElem? (i := 16) rfl)) (cs := [nar .char ((p3 &&& (255 : Int32)).toUInt32.toUInt16.toUInt32.toInt32)]) (bs := ([nar .char ((p3 &&& (255 : Int32)).toUInt32.toUInt16.toUInt32.toInt32)] : List Int32).map (fun c => c.toInt8.toInt32)) (n := 1) g_b45 (Nat.le_trans Z0 K45.1) A45 F45_value F45_coder V47 (Sta.ext (own_keep_ext K45) S_C) hzc rfl rfl (by decide) (by decide) (own_chrb p3) rfl (by decide) (by decide)) (g := (mkF m 71 #[.val (.int p1), .val (.int p2), .val (.int p3), .val (.int p4), .val (.int (1 : Int32)), .val (.ref w_CURRENCY), .val (.int (0 : Int32)), .val (.ref wS), .val (.ref b41), .unset, .unset, .unset] [(.ref b41), (.ref b45), (.ref b45), (.ref wS), (.ref b43), (.ref b43)])) rfl (by rw [hml]; rfl) (Steps.refl _) (a := b45) (argsL := [(.ref b41)]) (rest := [(.ref b45), (.ref wS), (.ref b43), (.ref b43)]) (lenOf pd_rm0_1 rfl) rfl (by show 2 * 0 + _ ≤ _; exact Nat.le_of_eq rfl) (hb hby at_71) (fun _ _ => ⟨rfl, e45, (by decide : 3 + 1 ≤ _), (by decide : 8 + 1 ≤ _)⟩)
      dsimp only [Pt.U, Pt.locs, Pt.cells, Pt.slots] at X48 l48 y48 z48 st48 hQ48
      subst l48 y48 z48
      obtain ⟨rfl, N48q, K48q, A48q, C48q, t48, k48, g481, g482, g483, F48q, B48q⟩ := hQ48
      have N48 := Fr.app N42 N48q
      have K48 : Keep h0 T48.heap [] := (K45).trans K48q (allS (Or.inr sz_b45) all0)
      have f49 := ((Exa.ext E45 A43).keep K48q)
      have f50 := ((Fld.ext E45 F43_kind).keep K48q (ninS ne_b43_b45 nin0))
      have f51 := ((Fld.ext E45 F43_text).keep K48q (ninS ne_b43_b45 nin0))
      have f52 := ((Fld.ext E45 F43_start).keep K48q (ninS ne_b43_b45 nin0))
      obtain ⟨_, _, ⟨T53, L53, k53, n53⟩, -, X53, hS2_53, hg_53, ⟨Lc53, hQ53, l53, y53, z53⟩, st53⟩ := X48.specialBackS hx (y := (⟨"com/example/riscontro/riscontro/rules/Token", "<init>", "(Lcom/example/riscontro/riscontro/rules/Token$Kind;Ljava/lang/String;I)V"⟩ : MethodName)) rfl hown (mvT hZ (hw _ (List.mem_of_getElem? (i := 44) rfl))) (mvT hZ (hw _ (List.mem_of_getElem? (i := 45) rfl))) (mvT hZ (hw _ (List.mem_of_getElem? (i := 46) rfl))) (by decide) (backOfS (W := 1) (rmT l Z a0 hw [] b43 wS b45 (p4 &&& (2147483647 : Int32)) T48.heap n0 (Nat.le_trans Z0 K48.1) f49 f50 f51 f52 g_b43 (own_start p4)) hZ (hw _ (List.mem_of_getElem? (i := 46) rfl)) (hw _ (List.mem_of_getElem? (i := 14) rfl)) (by decide) (by decide)) (g := (mkF m 78 #[.val (.int p1), .val (.int p2), .val (.int p3), .val (.int p4), .val (.int (1 : Int32)), .val (.ref w_CURRENCY), .val (.int (0 : Int32)), .val (.ref wS), .val (.ref b41), .unset, .unset, .unset] [(.int (p4 &&& (2147483647 : Int32))), (.ref b45), (.ref wS), (.ref b43), (.ref b43)])) rfl (by rw [hml]; rfl) (Steps.refl _) (a := b43) (argsL := [(.ref wS), (.ref b45), (.int (p4 &&& (2147483647 : Int32)))]) (rest := [(.ref b43)]) (lenOf pd_rm0_2 rfl) rfl (by show 2 * 0 + _ ≤ _; exact Nat.le_of_eq rfl) (hb hby at_78) (fun _ _ => ⟨rfl, rfl, (by decide : 4 + 4 ≤ _), (by decide : 9 + 40 ≤ _)⟩)
      dsimp only [Pt.U, Pt.locs, Pt.cells, Pt.slots] at X53 l53 y53 z53 st53 hQ53
      subst l53 y53 z53
      obtain ⟨X53', hS53', hZ53', hown53'⟩ := rebS (s := s) (vm0 := s.vm) hS0 (show _ ≤ T48.heap.size by exact (Nat.le_trans (Nat.le_trans (Nat.le_trans (Nat.le_trans (Nat.le_trans (Nat.zero_le _) (E41).1) (Keep.of_wr W42).1) (E43).1) (E45).1) (K48q).1)) X53 hS2_53 hg_53 hZ hown
      obtain ⟨rfl, N53q, K53q, A53q, G53q⟩ := hQ53
      have N53 := Fr.app N48 N53q
      have K53 : Keep h0 T53.heap [] := (K48).trans K53q (allS (Or.inr sz_b43) all0)
      obtain ⟨cq54, kq54, q54a, q54b, q54c⟩ := isOf hZ53' rfl (Exa.ext (own_keep_ext K53) E_CURRENCY)
      obtain ⟨_, _, ⟨T54, L54, k54, n54⟩, -, X54, ⟨Lc54, hQ54, l54, y54, z54⟩, st54⟩ := X53'.virtualBack hx (y := (⟨"com/example/riscontro/riscontro/rules/Field", "takes", "(Lcom/example/riscontro/riscontro/rules/Token;)Z"⟩ : MethodName)) (z := (⟨"com/example/riscontro/riscontro/rules/Field", "takes", "(Lcom/example/riscontro/riscontro/rules/Token;)Z"⟩ : MethodName)) hown53' (mvT hZ53' (hw _ (List.mem_of_getElem? (i := 67) rfl))) (mvT hZ53' (hw _ (List.mem_of_getElem? (i := 68) rfl))) (notFace_of_selects (args := #[]) (mvT hZ53' (hw _ (List.mem_of_getElem? (i := 70) rfl)))) (mvT hZ53' (hw _ (List.mem_of_getElem? (i := 70) rfl))) (mvT hZ53' (hw _ (List.mem_of_getElem? (i := 69) rfl))) (by decide) (backOf (W := 0) (rmX l Z a0 hw [] w_CURRENCY b43 wS wS (1 : Int32) T53.heap n0 (Nat.le_trans Z0 K53.1) (Fld.ext (own_keep_ext K53) V_CURRENCY) G53q A53q (if_pos rfl)) hZ53' (hw _ (List.mem_of_getElem? (i := 71) rfl)) (hw _ (List.mem_of_getElem? (i := 6) rfl)) (by decide) (by decide)) q54a q54c (g := (mkF m 119 #[.val (.int p1), .val (.int p2), .val (.int p3), .val (.int p4), .val (.int (1 : Int32)), .val (.ref w_CURRENCY), .val (.int (0 : Int32)), .val (.ref wS), .val (.ref b41), .val (.ref b43), .val (.int (0 : Int32)), .val (.int (1 : Int32))] [(.ref b43), (.ref w_CURRENCY)])) rfl (by rw [hml]; rfl) (Steps.refl _) (argsL := [(.ref b43)]) (rest := []) (lenOf pd_rm0_3 rfl) rfl (by show 2 * 0 + _ ≤ _; exact Nat.le_of_eq rfl) (hb hby at_119) (fun _ _ => ⟨rfl, rfl, (by decide : 8 + 0 ≤ _), (by decide : 49 + 0 ≤ _)⟩)
      dsimp only [Pt.U, Pt.locs, Pt.cells, Pt.slots] at X54 l54 y54 z54 st54 hQ54
      subst l54 y54 z54
      obtain ⟨rfl, N54q, e54⟩ := hQ54
      have N54 := Fr.app N53 N54q
      obtain ⟨fs, hr, hrun, hended, hRW⟩ := Jvm.Stand.leaveW (s := s) (vm₁ := T53.vm) X54 hS53' (show _ ≤ T54.heap.size by rw [e54]; exact (Nat.le_refl T53.heap.size)) (v := some (.int (1 : Int32))) (fun h => by rw [Bd.returns] at h; cases h)
      refine ⟨_, _, pre38 _ ?_, hrun, hended, _, _, rfl, ?_, hRW.1, hRW.2.1, hRW.2.2.1, hRW.2.2.2.mono (by decide) (by decide)⟩
      · show Steps p.tables e below (T37.setTop (mkF m 19 #[.val (.int p1), .val (.int p2), .val (.int p3), .val (.int p4), .val (.int (1 : Int32)), .val (.ref w_CURRENCY), .unset, .unset, .unset, .unset, .unset, .unset] [(.int (p2 &&& (1 : Int32)))])) _
        refine XS.ifYes X37.here hx rfl (pc0 := 19) (pc' := 26) rfl (hb hby at_19) rfl ((if0 _ _).trans (teq hc39).1) (by decide) (by decide) ?_
        show Steps p.tables e below (T37.setTop (mkF m 26 #[.val (.int p1), .val (.int p2), .val (.int p3), .val (.int p4), .val (.int (1 : Int32)), .val (.ref w_CURRENCY), .unset, .unset, .unset, .unset, .unset, .unset] [])) _
        refine XS.iconst X37.here hx rfl (hb hby at_26) ?_
        show Steps p.tables e below (T37.setTop (mkF m 27 #[.val (.int p1), .val (.int p2), .val (.int p3), .val (.int p4), .val (.int (1 : Int32)), .val (.ref w_CURRENCY), .unset, .unset, .unset, .unset, .unset, .unset] [(.int (0 : Int32))])) _
        refine XS.istore X37.here hx rfl (hb hby at_27) rfl (l' := #[.val (.int p1), .val (.int p2), .val (.int p3), .val (.int p4), .val (.int (1 : Int32)), .val (.ref w_CURRENCY), .val (.int (0 : Int32)), .unset, .unset, .unset, .unset, .unset]) rfl ?_
        show Steps p.tables e below (T37.setTop (mkF m 29 #[.val (.int p1), .val (.int p2), .val (.int p3), .val (.int p4), .val (.int (1 : Int32)), .val (.ref w_CURRENCY), .val (.int (0 : Int32)), .unset, .unset, .unset, .unset, .unset] [])) _
        refine XS.iload X37.here hx rfl (hb hby at_29) rfl ?_
        show Steps p.tables e below (T37.setTop (mkF m 31 #[.val (.int p1), .val (.int p2), .val (.int p3), .val (.int p4), .val (.int (1 : Int32)), .val (.ref w_CURRENCY), .val (.int (0 : Int32)), .unset, .unset, .unset, .unset, .unset] [(.int (0 : Int32))])) _
        refine XS.ifYes X37.here hx rfl (pc0 := 31) (pc' := 40) rfl (hb hby at_31) rfl ((if0 _ _).trans (teq (rfl : (0 : Int32) = (0 : Int32))).1) (by decide) (by decide) ?_
        show Steps p.tables e below (T37.setTop (mkF m 40 #[.val (.int p1), .val (.int p2), .val (.int p3), .val (.int p4), .val (.int (1 : Int32)), .val (.ref w_CURRENCY), .val (.int (0 : Int32)), .unset, .unset, .unset, .unset, .unset] [])) _
        refine st40 _ ?_
        show Steps p.tables e below (T40.setTop (mkF m 43 #[.val (.int p1), .val (.int p2), .val (.int p3), .val (.int p4), .val (.int (1 : Int32)), .val (.ref w_CURRENCY), .val (.int (0 : Int32)), .unset, .unset, .unset, .unset, .unset] [(.ref wS)])) _
        refine XS.astore X40.here hx rfl (hb hby at_43) rfl rfl (l' := #[.val (.int p1), .val (.int p2), .val (.int p3), .val (.int p4), .val (.int (1 : Int32)), .val (.ref w_CURRENCY), .val (.int (0 : Int32)), .val (.ref wS), .unset, .unset, .unset, .unset]) rfl ?_
        show Steps p.tables e below (T40.setTop (mkF m 45 #[.val (.int p1), .val (.int p2), .val (.int p3), .val (.int p4), .val (.int (1 : Int32)), .val (.ref w_CURRENCY), .val (.int (0 : Int32)), .val (.ref wS), .unset, .unset, .unset, .unset] [])) _
        refine XS.iconst X40.here hx rfl (hb hby at_45) ?_
        show Steps p.tables e below (T40.setTop (mkF m 46 #[.val (.int p1), .val (.int p2), .val (.int p3), .val (.int p4), .val (.int (1 : Int32)), .val (.ref w_CURRENCY), .val (.int (0 : Int32)), .val (.ref wS), .unset, .unset, .unset, .unset] [(.int (1 : Int32))])) _
        refine st41 _ ?_
        show Steps p.tables e below (T41.setTop (mkF m 48 #[.val (.int p1), .val (.int p2), .val (.int p3), .val (.int p4), .val (.int (1 : Int32)), .val (.ref w_CURRENCY), .val (.int (0 : Int32)), .val (.ref wS), .unset, .unset, .unset, .unset] [(.ref b41)])) _
        refine XS.dup X41.here hx rfl (hb hby at_48) rfl rfl ?_
        show Steps p.tables e below (T41.setTop (mkF m 49 #[.val (.int p1), .val (.int p2), .val (.int p3), .val (.int p4), .val (.int (1 : Int32)), .val (.ref w_CURRENCY), .val (.int (0 : Int32)), .val (.ref wS), .unset, .unset, .unset, .unset] [(.ref b41), (.ref b41)])) _
        refine XS.iconst X41.here hx rfl (hb hby at_49) ?_
        show Steps p.tables e below (T41.setTop (mkF m 50 #[.val (.int p1), .val (.int p2), .val (.int p3), .val (.int p4), .val (.int (1 : Int32)), .val (.ref w_CURRENCY), .val (.int (0 : Int32)), .val (.ref wS), .unset, .unset, .unset, .unset] [(.int (0 : Int32)), (.ref b41), (.ref b41)])) _
        refine XS.iloadN X41.here hx rfl (hb hby at_50) rfl ?_
        show Steps p.tables e below (T41.setTop (mkF m 51 #[.val (.int p1), .val (.int p2), .val (.int p3), .val (.int p4), .val (.int (1 : Int32)), .val (.ref w_CURRENCY), .val (.int (0 : Int32)), .val (.ref wS), .unset, .unset, .unset, .unset] [(.int p3), (.int (0 : Int32)), (.ref b41), (.ref b41)])) _
        refine XS.sipush X41.here hx rfl (hb hby at_51) ?_
        show Steps p.tables e below (T41.setTop (mkF m 54 #[.val (.int p1), .val (.int p2), .val (.int p3), .val (.int p4), .val (.int (1 : Int32)), .val (.ref w_CURRENCY), .val (.int (0 : Int32)), .val (.ref wS), .unset, .unset, .unset, .unset] [(.int (255 : Int32)), (.int p3), (.int (0 : Int32)), (.ref b41), (.ref b41)])) _
        refine XS.iand X41.here hx rfl (hb hby at_54) rfl ?_
        show Steps p.tables e below (T41.setTop (mkF m 55 #[.val (.int p1), .val (.int p2), .val (.int p3), .val (.int p4), .val (.int (1 : Int32)), .val (.ref w_CURRENCY), .val (.int (0 : Int32)), .val (.ref wS), .unset, .unset, .unset, .unset] [(.int (p3 &&& (255 : Int32))), (.int (0 : Int32)), (.ref b41), (.ref b41)])) _
        refine XS.i2c X41.here hx rfl (hb hby at_55) rfl ?_
        show Steps p.tables e below (T41.setTop (mkF m 56 #[.val (.int p1), .val (.int p2), .val (.int p3), .val (.int p4), .val (.int (1 : Int32)), .val (.ref w_CURRENCY), .val (.int (0 : Int32)), .val (.ref wS), .unset, .unset, .unset, .unset] [(.int ((p3 &&& (255 : Int32)).toUInt32.toUInt16.toUInt32.toInt32)), (.int (0 : Int32)), (.ref b41), (.ref b41)])) _
        refine st42 _ ?_
        show Steps p.tables e below (T42.setTop (mkF m 57 #[.val (.int p1), .val (.int p2), .val (.int p3), .val (.int p4), .val (.int (1 : Int32)), .val (.ref w_CURRENCY), .val (.int (0 : Int32)), .val (.ref wS), .unset, .unset, .unset, .unset] [(.ref b41)])) _
        refine XS.astore X42.here hx rfl (hb hby at_57) rfl rfl (l' := #[.val (.int p1), .val (.int p2), .val (.int p3), .val (.int p4), .val (.int (1 : Int32)), .val (.ref w_CURRENCY), .val (.int (0 : Int32)), .val (.ref wS), .val (.ref b41), .unset, .unset, .unset]) rfl ?_
        show Steps p.tables e below (T42.setTop (mkF m 59 #[.val (.int p1), .val (.int p2), .val (.int p3), .val (.int p4), .val (.int (1 : Int32)), .val (.ref w_CURRENCY), .val (.int (0 : Int32)), .val (.ref wS), .val (.ref b41), .unset, .unset, .unset] [])) _
        refine st43 _ ?_
        show Steps p.tables e below (T43.setTop (mkF m 62 #[.val (.int p1), .val (.int p2), .val (.int p3), .val (.int p4), .val (.int (1 : Int32)), .val (.ref w_CURRENCY), .val (.int (0 : Int32)), .val (.ref wS), .val (.ref b41), .unset, .unset, .unset] [(.ref b43)])) _
        refine XS.dup X43.here hx rfl (hb hby at_62) rfl rfl ?_
        show Steps p.tables e below (T43.setTop (mkF m 63 #[.val (.int p1), .val (.int p2), .val (.int p3), .val (.int p4), .val (.int (1 : Int32)), .val (.ref w_CURRENCY), .val (.int (0 : Int32)), .val (.ref wS), .val (.ref b41), .unset, .unset, .unset] [(.ref b43), (.ref b43)])) _
        refine XS.aload X43.here hx rfl (hb hby at_63) rfl rfl ?_
        show Steps p.tables e below (T43.setTop (mkF m 65 #[.val (.int p1), .val (.int p2), .val (.int p3), .val (.int p4), .val (.int (1 : Int32)), .val (.ref w_CURRENCY), .val (.int (0 : Int32)), .val (.ref wS), .val (.ref b41), .unset, .unset, .unset] [(.ref wS), (.ref b43), (.ref b43)])) _
        refine st45 _ ?_
        show Steps p.tables e below (T45.setTop (mkF m 68 #[.val (.int p1), .val (.int p2), .val (.int p3), .val (.int p4), .val (.int (1 : Int32)), .val (.ref w_CURRENCY), .val (.int (0 : Int32)), .val (.ref wS), .val (.ref b41), .unset, .unset, .unset] [(.ref b45), (.ref wS), (.ref b43), (.ref b43)])) _
        refine XS.dup X45.here hx rfl (hb hby at_68) rfl rfl ?_
        show Steps p.tables e below (T45.setTop (mkF m 69 #[.val (.int p1), .val (.int p2), .val (.int p3), .val (.int p4), .val (.int (1 : Int32)), .val (.ref w_CURRENCY), .val (.int (0 : Int32)), .val (.ref wS), .val (.ref b41), .unset, .unset, .unset] [(.ref b45), (.ref b45), (.ref wS), (.ref b43), (.ref b43)])) _
        refine XS.aload X45.here hx rfl (hb hby at_69) rfl rfl ?_
        show Steps p.tables e below (T45.setTop (mkF m 71 #[.val (.int p1), .val (.int p2), .val (.int p3), .val (.int p4), .val (.int (1 : Int32)), .val (.ref w_CURRENCY), .val (.int (0 : Int32)), .val (.ref wS), .val (.ref b41), .unset, .unset, .unset] [(.ref b41), (.ref b45), (.ref b45), (.ref wS), (.ref b43), (.ref b43)])) _
        refine st48.trans ?_
        show Steps p.tables e below (T48.setTop (mkF m 74 #[.val (.int p1), .val (.int p2), .val (.int p3), .val (.int p4), .val (.int (1 : Int32)), .val (.ref w_CURRENCY), .val (.int (0 : Int32)), .val (.ref wS), .val (.ref b41), .unset, .unset, .unset] [(.ref b45), (.ref wS), (.ref b43), (.ref b43)])) _
        refine XS.iloadN X48.here hx rfl (hb hby at_74) rfl ?_
        show Steps p.tables e below (T48.setTop (mkF m 75 #[.val (.int p1), .val (.int p2), .val (.int p3), .val (.int p4), .val (.int (1 : Int32)), .val (.ref w_CURRENCY), .val (.int (0 : Int32)), .val (.ref wS), .val (.ref b41), .unset, .unset, .unset] [(.int p4), (.ref b45), (.ref wS), (.ref b43), (.ref b43)])) _
        refine X48.ldcInt hx hown (mvT hZ (hw _ (List.mem_of_getElem? (i := 0) rfl))) (g := (mkF m 75 #[.val (.int p1), .val (.int p2), .val (.int p3), .val (.int p4), .val (.int (1 : Int32)), .val (.ref w_CURRENCY), .val (.int (0 : Int32)), .val (.ref wS), .val (.ref b41), .unset, .unset, .unset] [(.int p4), (.ref b45), (.ref wS), (.ref b43), (.ref b43)])) rfl (hb hby at_75) _ ?_
        show Steps p.tables e below (T48.setTop (mkF m 77 #[.val (.int p1), .val (.int p2), .val (.int p3), .val (.int p4), .val (.int (1 : Int32)), .val (.ref w_CURRENCY), .val (.int (0 : Int32)), .val (.ref wS), .val (.ref b41), .unset, .unset, .unset] [(.int (2147483647 : Int32)), (.int p4), (.ref b45), (.ref wS), (.ref b43), (.ref b43)])) _
        refine XS.iand X48.here hx rfl (hb hby at_77) rfl ?_
        show Steps p.tables e below (T48.setTop (mkF m 78 #[.val (.int p1), .val (.int p2), .val (.int p3), .val (.int p4), .val (.int (1 : Int32)), .val (.ref w_CURRENCY), .val (.int (0 : Int32)), .val (.ref wS), .val (.ref b41), .unset, .unset, .unset] [(.int (p4 &&& (2147483647 : Int32))), (.ref b45), (.ref wS), (.ref b43), (.ref b43)])) _
        refine st53.trans ?_
        show Steps p.tables e below (T53.setTop (mkF m 81 #[.val (.int p1), .val (.int p2), .val (.int p3), .val (.int p4), .val (.int (1 : Int32)), .val (.ref w_CURRENCY), .val (.int (0 : Int32)), .val (.ref wS), .val (.ref b41), .unset, .unset, .unset] [(.ref b43)])) _
        refine XS.astore X53'.here hx rfl (hb hby at_81) rfl rfl (l' := #[.val (.int p1), .val (.int p2), .val (.int p3), .val (.int p4), .val (.int (1 : Int32)), .val (.ref w_CURRENCY), .val (.int (0 : Int32)), .val (.ref wS), .val (.ref b41), .val (.ref b43), .unset, .unset]) rfl ?_
        show Steps p.tables e below (T53.setTop (mkF m 83 #[.val (.int p1), .val (.int p2), .val (.int p3), .val (.int p4), .val (.int (1 : Int32)), .val (.ref w_CURRENCY), .val (.int (0 : Int32)), .val (.ref wS), .val (.ref b41), .val (.ref b43), .unset, .unset] [])) _
        refine XS.iload X53'.here hx rfl (hb hby at_83) rfl ?_
        show Steps p.tables e below (T53.setTop (mkF m 85 #[.val (.int p1), .val (.int p2), .val (.int p3), .val (.int p4), .val (.int (1 : Int32)), .val (.ref w_CURRENCY), .val (.int (0 : Int32)), .val (.ref wS), .val (.ref b41), .val (.ref b43), .unset, .unset] [(.int (1 : Int32))])) _
        refine XS.ifNo X53'.here hx rfl (hb hby at_85) rfl ((if0 _ _).trans (feq (by decide : ¬ ((1 : Int32) = (0 : Int32)))).1) ?_
        show Steps p.tables e below (T53.setTop (mkF m 88 #[.val (.int p1), .val (.int p2), .val (.int p3), .val (.int p4), .val (.int (1 : Int32)), .val (.ref w_CURRENCY), .val (.int (0 : Int32)), .val (.ref wS), .val (.ref b41), .val (.ref b43), .unset, .unset] [])) _
        refine XS.iload X53'.here hx rfl (hb hby at_88) rfl ?_
        show Steps p.tables e below (T53.setTop (mkF m 90 #[.val (.int p1), .val (.int p2), .val (.int p3), .val (.int p4), .val (.int (1 : Int32)), .val (.ref w_CURRENCY), .val (.int (0 : Int32)), .val (.ref wS), .val (.ref b41), .val (.ref b43), .unset, .unset] [(.int (1 : Int32))])) _
        refine XS.iconst X53'.here hx rfl (hb hby at_90) ?_
        show Steps p.tables e below (T53.setTop (mkF m 91 #[.val (.int p1), .val (.int p2), .val (.int p3), .val (.int p4), .val (.int (1 : Int32)), .val (.ref w_CURRENCY), .val (.int (0 : Int32)), .val (.ref wS), .val (.ref b41), .val (.ref b43), .unset, .unset] [(.int (5 : Int32)), (.int (1 : Int32))])) _
        refine XS.icmpYes X53'.here hx rfl (pc0 := 91) (pc' := 98) rfl (hb hby at_91) rfl (feq (by decide : ¬ ((1 : Int32) = (5 : Int32)))).2 (by decide) (by decide) ?_
        show Steps p.tables e below (T53.setTop (mkF m 98 #[.val (.int p1), .val (.int p2), .val (.int p3), .val (.int p4), .val (.int (1 : Int32)), .val (.ref w_CURRENCY), .val (.int (0 : Int32)), .val (.ref wS), .val (.ref b41), .val (.ref b43), .unset, .unset] [])) _
        refine XS.iconst X53'.here hx rfl (hb hby at_98) ?_
        show Steps p.tables e below (T53.setTop (mkF m 99 #[.val (.int p1), .val (.int p2), .val (.int p3), .val (.int p4), .val (.int (1 : Int32)), .val (.ref w_CURRENCY), .val (.int (0 : Int32)), .val (.ref wS), .val (.ref b41), .val (.ref b43), .unset, .unset] [(.int (0 : Int32))])) _
        refine XS.istore X53'.here hx rfl (hb hby at_99) rfl (l' := #[.val (.int p1), .val (.int p2), .val (.int p3), .val (.int p4), .val (.int (1 : Int32)), .val (.ref w_CURRENCY), .val (.int (0 : Int32)), .val (.ref wS), .val (.ref b41), .val (.ref b43), .val (.int (0 : Int32)), .unset]) rfl ?_
        show Steps p.tables e below (T53.setTop (mkF m 101 #[.val (.int p1), .val (.int p2), .val (.int p3), .val (.int p4), .val (.int (1 : Int32)), .val (.ref w_CURRENCY), .val (.int (0 : Int32)), .val (.ref wS), .val (.ref b41), .val (.ref b43), .val (.int (0 : Int32)), .unset] [])) _
        refine XS.iload X53'.here hx rfl (hb hby at_101) rfl ?_
        show Steps p.tables e below (T53.setTop (mkF m 103 #[.val (.int p1), .val (.int p2), .val (.int p3), .val (.int p4), .val (.int (1 : Int32)), .val (.ref w_CURRENCY), .val (.int (0 : Int32)), .val (.ref wS), .val (.ref b41), .val (.ref b43), .val (.int (0 : Int32)), .unset] [(.int (0 : Int32))])) _
        refine XS.iload X53'.here hx rfl (hb hby at_103) rfl ?_
        show Steps p.tables e below (T53.setTop (mkF m 105 #[.val (.int p1), .val (.int p2), .val (.int p3), .val (.int p4), .val (.int (1 : Int32)), .val (.ref w_CURRENCY), .val (.int (0 : Int32)), .val (.ref wS), .val (.ref b41), .val (.ref b43), .val (.int (0 : Int32)), .unset] [(.int (0 : Int32)), (.int (0 : Int32))])) _
        refine XS.icmpNo X53'.here hx rfl (hb hby at_105) rfl (teq (rfl : (0 : Int32) = (0 : Int32))).2 ?_
        show Steps p.tables e below (T53.setTop (mkF m 108 #[.val (.int p1), .val (.int p2), .val (.int p3), .val (.int p4), .val (.int (1 : Int32)), .val (.ref w_CURRENCY), .val (.int (0 : Int32)), .val (.ref wS), .val (.ref b41), .val (.ref b43), .val (.int (0 : Int32)), .unset] [])) _
        refine XS.iconst X53'.here hx rfl (hb hby at_108) ?_
        show Steps p.tables e below (T53.setTop (mkF m 109 #[.val (.int p1), .val (.int p2), .val (.int p3), .val (.int p4), .val (.int (1 : Int32)), .val (.ref w_CURRENCY), .val (.int (0 : Int32)), .val (.ref wS), .val (.ref b41), .val (.ref b43), .val (.int (0 : Int32)), .unset] [(.int (1 : Int32))])) _
        refine XS.goto X53'.here hx rfl (pc0 := 109) (pc' := 113) rfl (hb hby at_109) (by decide) (by decide) ?_
        show Steps p.tables e below (T53.setTop (mkF m 113 #[.val (.int p1), .val (.int p2), .val (.int p3), .val (.int p4), .val (.int (1 : Int32)), .val (.ref w_CURRENCY), .val (.int (0 : Int32)), .val (.ref wS), .val (.ref b41), .val (.ref b43), .val (.int (0 : Int32)), .unset] [(.int (1 : Int32))])) _
        refine XS.istore X53'.here hx rfl (hb hby at_113) rfl (l' := #[.val (.int p1), .val (.int p2), .val (.int p3), .val (.int p4), .val (.int (1 : Int32)), .val (.ref w_CURRENCY), .val (.int (0 : Int32)), .val (.ref wS), .val (.ref b41), .val (.ref b43), .val (.int (0 : Int32)), .val (.int (1 : Int32))]) rfl ?_
        show Steps p.tables e below (T53.setTop (mkF m 115 #[.val (.int p1), .val (.int p2), .val (.int p3), .val (.int p4), .val (.int (1 : Int32)), .val (.ref w_CURRENCY), .val (.int (0 : Int32)), .val (.ref wS), .val (.ref b41), .val (.ref b43), .val (.int (0 : Int32)), .val (.int (1 : Int32))] [])) _
        refine XS.aload X53'.here hx rfl (hb hby at_115) rfl rfl ?_
        show Steps p.tables e below (T53.setTop (mkF m 117 #[.val (.int p1), .val (.int p2), .val (.int p3), .val (.int p4), .val (.int (1 : Int32)), .val (.ref w_CURRENCY), .val (.int (0 : Int32)), .val (.ref wS), .val (.ref b41), .val (.ref b43), .val (.int (0 : Int32)), .val (.int (1 : Int32))] [(.ref w_CURRENCY)])) _
        refine XS.aload X53'.here hx rfl (hb hby at_117) rfl rfl ?_
        show Steps p.tables e below (T53.setTop (mkF m 119 #[.val (.int p1), .val (.int p2), .val (.int p3), .val (.int p4), .val (.int (1 : Int32)), .val (.ref w_CURRENCY), .val (.int (0 : Int32)), .val (.ref wS), .val (.ref b41), .val (.ref b43), .val (.int (0 : Int32)), .val (.int (1 : Int32))] [(.ref b43), (.ref w_CURRENCY)])) _
        refine st54.trans ?_
        show Steps p.tables e below (T54.setTop (mkF m 122 #[.val (.int p1), .val (.int p2), .val (.int p3), .val (.int p4), .val (.int (1 : Int32)), .val (.ref w_CURRENCY), .val (.int (0 : Int32)), .val (.ref wS), .val (.ref b41), .val (.ref b43), .val (.int (0 : Int32)), .val (.int (1 : Int32))] [(.int (1 : Int32))])) _
        refine XS.iload X54.here hx rfl (hb hby at_122) rfl ?_
        show Steps p.tables e below (T54.setTop (mkF m 124 #[.val (.int p1), .val (.int p2), .val (.int p3), .val (.int p4), .val (.int (1 : Int32)), .val (.ref w_CURRENCY), .val (.int (0 : Int32)), .val (.ref wS), .val (.ref b41), .val (.ref b43), .val (.int (0 : Int32)), .val (.int (1 : Int32))] [(.int (1 : Int32)), (.int (1 : Int32))])) _
        refine XS.icmpNo X54.here hx rfl (hb hby at_124) rfl (teq (rfl : (1 : Int32) = (1 : Int32))).2 ?_
        show Steps p.tables e below (T54.setTop (mkF m 127 #[.val (.int p1), .val (.int p2), .val (.int p3), .val (.int p4), .val (.int (1 : Int32)), .val (.ref w_CURRENCY), .val (.int (0 : Int32)), .val (.ref wS), .val (.ref b41), .val (.ref b43), .val (.int (0 : Int32)), .val (.int (1 : Int32))] [])) _
        refine XS.iconst X54.here hx rfl (hb hby at_127) ?_
        show Steps p.tables e below (T54.setTop (mkF m 128 #[.val (.int p1), .val (.int p2), .val (.int p3), .val (.int p4), .val (.int (1 : Int32)), .val (.ref w_CURRENCY), .val (.int (0 : Int32)), .val (.ref wS), .val (.ref b41), .val (.ref b43), .val (.int (0 : Int32)), .val (.int (1 : Int32))] [(.int (1 : Int32))])) _
        refine XS.goto X54.here hx rfl (pc0 := 128) (pc' := 132) rfl (hb hby at_128) (by decide) (by decide) ?_
        show Steps p.tables e below (T54.setTop (mkF m 132 #[.val (.int p1), .val (.int p2), .val (.int p3), .val (.int p4), .val (.int (1 : Int32)), .val (.ref w_CURRENCY), .val (.int (0 : Int32)), .val (.ref wS), .val (.ref b41), .val (.ref b43), .val (.int (0 : Int32)), .val (.int (1 : Int32))] [(.int (1 : Int32))])) _
        exact retN X54 hx (t := .boolean) Bd.returns (by simp) (hb hby at_132) hr
      · show Q_rm0 Z p1 p2 p3 p4 w_AMOUNT w_CURRENCY w_MERCHANT_ID w_IP_ADDRESS w_DEVICE_ID w_USER_AGE w_USER_REGION wN wS zc h0 n0 _ T54.heap _
        rw [e54]
        exact ⟨rfl, N54⟩
    · obtain ⟨T55, X55, e55, st55⟩ := getS2 X37 hx hZ hown (host := "") (Or.inl (hw _ (List.mem_of_getElem? (i := 8) rfl))) Via.refl e37 S_NUMBER (g := (mkF m 34 #[.val (.int p1), .val (.int p2), .val (.int p3), .val (.int p4), .val (.int (1 : Int32)), .val (.ref w_CURRENCY), .val (.int (1 : Int32)), .unset, .unset, .unset, .unset, .unset] [])) rfl (hb hby at_34)
      obtain ⟨T56, h56, k56, X56, e56, E56, A56, st56⟩ := newP X55 hx hZ (hw _ (List.mem_of_getElem? (i := 11) rfl)) e55 (g := (mkF m 46 #[.val (.int p1), .val (.int p2), .val (.int p3), .val (.int p4), .val (.int (1 : Int32)), .val (.ref w_CURRENCY), .val (.int (1 : Int32)), .val (.ref wN), .unset, .unset, .unset, .unset] [(.int (1 : Int32))])) rfl (hb hby at_46) rfl (by decide) (cap := 1) (by decide) (by decide) (by decide) (by decide)
      obtain ⟨b56, g56⟩ : ∃ z, z = h0.size := ⟨_, rfl⟩
      rw [← g56] at A56 st56
      have V_b56 : Arv Z h56 b56 k56 .char (1 : Int32) [(.int (0 : Int32))] (.int (0 : Int32)) := (Arv.new A56 (by decide)).pad (pad_rep [] (.int (0 : Int32)) 1)
      have g_b56 : n0 ≤ b56 := Nat.le_trans Z0 (Nat.le_of_eq g56.symm)
      have sz_b56 : h0.size ≤ b56 := Nat.le_trans ((Keep.refl h0 [])).1 (Nat.le_of_eq g56.symm)
      have K56 : Keep h0 h56 [] := ((Keep.refl h0 [])).ext E56
      obtain ⟨cl57, Ar57, q57, S57, N57_, H57, G57⟩ := id V_b56
      obtain ⟨T57, h57, X57, e57, W57, st57⟩ := stC X56 hx hZ e56 Ar57 (j := (0 : Int32)) (inb_of S57 ⟨by decide, by decide⟩) (g := (mkF m 56 #[.val (.int p1), .val (.int p2), .val (.int p3), .val (.int p4), .val (.int (1 : Int32)), .val (.ref w_CURRENCY), .val (.int (1 : Int32)), .val (.ref wN), .unset, .unset, .unset, .unset] [(.int ((p3 &&& (255 : Int32)).toUInt32.toUInt16.toUInt32.toInt32)), (.int (0 : Int32)), (.ref b56), (.ref b56)])) rfl rfl (hb hby at_56)
      have V57 := Arv.set Ar57 q57 S57 N57_ H57 G57 (fits_nar_char _) W57 0 rfl (Nat.le_of_ble_eq_true rfl)
      have K57 : Keep h0 h57 [] := (K56).wr W57 (Or.inr sz_b56)
      have N57 := Fr.snoc X57 N37 g_b56
      obtain ⟨T58, h58, X58, e58, E58, A58, D58, -, st58⟩ := newO X57 hx hZ hown (hw _ (List.mem_of_getElem? (i := 12) rfl)) (hw _ (List.mem_of_getElem? (i := 13) rfl)) (hw _ (List.mem_of_getElem? (i := 14) rfl)) e57 (g := (mkF m 59 #[.val (.int p1), .val (.int p2), .val (.int p3), .val (.int p4), .val (.int (1 : Int32)), .val (.ref w_CURRENCY), .val (.int (1 : Int32)), .val (.ref wN), .val (.ref b56), .unset, .unset, .unset] [])) rfl (hb hby at_59) (by decide) (by decide)
      obtain ⟨b58, g58⟩ : ∃ z, z = h57.size := ⟨_, rfl⟩
      rw [← g58] at A58 D58 st58
      have ne_b56_b58 : b56 ≠ b58 := Nat.ne_of_lt (Nat.lt_of_lt_of_le V57.lt (Nat.le_of_eq g58.symm))
      have g_b58 : n0 ≤ b58 := Nat.le_trans (Nat.le_trans Z0 K57.1) (Nat.le_of_eq g58.symm)
      have sz_b58 : h0.size ≤ b58 := Nat.le_trans (K57).1 (Nat.le_of_eq g58.symm)
      have K58 : Keep h0 h58 [] := (K57).ext E58
      have F58_kind : Fld Z h58 b58 "com/example/riscontro/riscontro/rules/Token" "kind" "Lcom/example/riscontro/riscontro/rules/Token$Kind;" .null := D58 (Or.inr (hw _ (List.mem_of_getElem? (i := 62) rfl))) (ty := (.object "com/example/riscontro/riscontro/rules/Token$Kind")) (by decide)
      have F58_text : Fld Z h58 b58 "com/example/riscontro/riscontro/rules/Token" "text" "Ljava/lang/String;" .null := D58 (Or.inr (hw _ (List.mem_of_getElem? (i := 64) rfl))) (ty := (.object "java/lang/String")) (by decide)
      have F58_start : Fld Z h58 b58 "com/example/riscontro/riscontro/rules/Token" "start" "I" (.int (0 : Int32)) := D58 (Or.inr (hw _ (List.mem_of_getElem? (i := 66) rfl))) (ty := .int) (by decide)
      have f59 := (V57.ext E58)
      obtain ⟨T60, h60, X60, e60, E60, A60, D60, -, st60⟩ := newO X58 hx hZ hown (hw _ (List.mem_of_getElem? (i := 15) rfl)) (hw _ (List.mem_of_getElem? (i := 16) rfl)) (hw _ (List.mem_of_getElem? (i := 17) rfl)) e58 (g := (mkF m 65 #[.val (.int p1), .val (.int p2), .val (.int p3), .val (.int p4), .val (.int (1 : Int32)), .val (.ref w_CURRENCY), .val (.int (1 : Int32)), .val (.ref wN), .val (.ref b56), .unset, .unset, .unset] [(.ref wN), (.ref b58), (.ref b58)])) rfl (hb hby at_65) (by decide) (by decide)
      obtain ⟨b60, g60⟩ : ∃ z, z = h58.size := ⟨_, rfl⟩
      rw [← g60] at A60 D60 st60
      have ne_b56_b60 : b56 ≠ b60 := Nat.ne_of_lt (Nat.lt_of_lt_of_le f59.lt (Nat.le_of_eq g60.symm))
      have ne_b58_b60 : b58 ≠ b60 := Nat.ne_of_lt (Nat.lt_of_lt_of_le A58.lt (Nat.le_of_eq g60.symm))
      have g_b60 : n0 ≤ b60 := Nat.le_trans (Nat.le_trans Z0 K58.1) (Nat.le_of_eq g60.symm)
      have sz_b60 : h0.size ≤ b60 := Nat.le_trans (K58).1 (Nat.le_of_eq g60.symm)
      have K60 : Keep h0 h60 [] := (K58).ext E60
      have F60_coder : Fld Z h60 b60 "java/lang/String" "coder" "B" (.int (0 : Int32)) := D60 (Or.inr (hw _ (List.mem_of_getElem? (i := 41) rfl))) (ty := .byte) (by decide)
      have F60_value : Fld Z h60 b60 "java/lang/String" "value" "[B" .null := D60 (Or.inr (hw _ (List.mem_of_getElem? (i := 43) rfl))) (ty := (.array .byte)) (by decide)
      have f61 := (f59.ext E60)
      have V62 : Arv Z h60 b56 _ .char (1 : Int32) (([nar .char ((p3 &&& (255 : Int32)).toUInt32.toUInt16.toUInt32.toInt32)] : List Int32).map Value.int) (.int (0 : Int32)) := f61
      have hws : ∀ d ∈ StrChars.Road.words, d.before a0 Z = true := fun d hd => hw d ((by decide +kernel : ∀ d ∈ StrChars.Road.words, d ∈ tables_1) d hd)
      obtain ⟨_, _, ⟨T63, L63, k63, n63⟩, -, X63, ⟨Lc63, hQ63, l63, y63, z63⟩, st63⟩ := X60.specialBack hx (y := (⟨"java/lang/String", "<init>", "([C)V"⟩ : MethodName)) rfl hown (mvT hZ (hw _ (List.mem_of_getElem? (i := 18) rfl))) (mvT hZ (hw _ (List.mem_of_getElem? (i := 19) rfl))) (mvT hZ (hw _ (List.mem_of_getElem? (i := 20) rfl))) (by decide) (StrChars.Road.backV (W := 4) hZ hws (kI := 4) (hw _ (List.mem_of_getElem? (i := 16) rfl)) (cs := [nar .char ((p3 &&& (255 : Int32)).toUInt32.toUInt16.toUInt32.toInt32)]) (bs := ([nar .char ((p3 &&& (255 : Int32)).toUInt32.toUInt16.toUInt32.toInt32)] : List Int32).map (fun c => c.toInt8.toInt32)) (n := 1) g_b60 (Nat.le_trans Z0 K60.1) A60 F60_value F60_coder V62 (Sta.ext (own_keep_ext K60) S_C) hzc rfl rfl (by decide) (by decide) (own_chrb p3) rfl (by decide) (by decide)) (g := (mkF m 71 #[.val (.int p1), .val (.int p2), .val (.int p3), .val (.int p4), .val (.int (1 : Int32)), .val (.ref w_CURRENCY), .val (.int (1 : Int32)), .val (.ref wN), .val (.ref b56), .unset, .unset, .unset] [(.ref b56), (.ref b60), (.ref b60), (.ref wN), (.ref b58), (.ref b58)])) rfl (by rw [hml]; rfl) (Steps.refl _) (a := b60) (argsL := [(.ref b56)]) (rest := [(.ref b60), (.ref wN), (.ref b58), (.ref b58)]) (lenOf pd_rm0_1 rfl) rfl (by show 2 * 0 + _ ≤ _; exact Nat.le_of_eq rfl) (hb hby at_71) (fun _ _ => ⟨rfl, e60, (by decide : 3 + 1 ≤ _), (by decide : 8 + 1 ≤ _)⟩)
      dsimp only [Pt.U, Pt.locs, Pt.cells, Pt.slots] at X63 l63 y63 z63 st63 hQ63
      subst l63 y63 z63
      obtain ⟨rfl, N63q, K63q, A63q, C63q, t63, k63, g631, g632, g633, F63q, B63q⟩ := hQ63
      have N63 := Fr.app N57 N63q
      have K63 : Keep h0 T63.heap [] := (K60).trans K63q (allS (Or.inr sz_b60) all0)
      have f64 := ((Exa.ext E60 A58).keep K63q)
      have f65 := ((Fld.ext E60 F58_kind).keep K63q (ninS ne_b58_b60 nin0))
      have f66 := ((Fld.ext E60 F58_text).keep K63q (ninS ne_b58_b60 nin0))
      have f67 := ((Fld.ext E60 F58_start).keep K63q (ninS ne_b58_b60 nin0))
      obtain ⟨_, _, ⟨T68, L68, k68, n68⟩, -, X68, hS2_68, hg_68, ⟨Lc68, hQ68, l68, y68, z68⟩, st68⟩ := X63.specialBackS hx (y := (⟨"com/example/riscontro/riscontro/rules/Token", "<init>", "(Lcom/example/riscontro/riscontro/rules/Token$Kind;Ljava/lang/String;I)V"⟩ : MethodName)) rfl hown (mvT hZ (hw _ (List.mem_of_getElem? (i := 44) rfl))) (mvT hZ (hw _ (List.mem_of_getElem? (i := 45) rfl))) (mvT hZ (hw _ (List.mem_of_getElem? (i := 46) rfl))) (by decide) (backOfS (W := 1) (rmT l Z a0 hw [] b58 wN b60 (p4 &&& (2147483647 : Int32)) T63.heap n0 (Nat.le_trans Z0 K63.1) f64 f65 f66 f67 g_b58 (own_start p4)) hZ (hw _ (List.mem_of_getElem? (i := 46) rfl)) (hw _ (List.mem_of_getElem? (i := 14) rfl)) (by decide) (by decide)) (g := (mkF m 78 #[.val (.int p1), .val (.int p2), .val (.int p3), .val (.int p4), .val (.int (1 : Int32)), .val (.ref w_CURRENCY), .val (.int (1 : Int32)), .val (.ref wN), .val (.ref b56), .unset, .unset, .unset] [(.int (p4 &&& (2147483647 : Int32))), (.ref b60), (.ref wN), (.ref b58), (.ref b58)])) rfl (by rw [hml]; rfl) (Steps.refl _) (a := b58) (argsL := [(.ref wN), (.ref b60), (.int (p4 &&& (2147483647 : Int32)))]) (rest := [(.ref b58)]) (lenOf pd_rm0_2 rfl) rfl (by show 2 * 0 + _ ≤ _; exact Nat.le_of_eq rfl) (hb hby at_78) (fun _ _ => ⟨rfl, rfl, (by decide : 4 + 4 ≤ _), (by decide : 9 + 40 ≤ _)⟩)
      dsimp only [Pt.U, Pt.locs, Pt.cells, Pt.slots] at X68 l68 y68 z68 st68 hQ68
      subst l68 y68 z68
      obtain ⟨X68', hS68', hZ68', hown68'⟩ := rebS (s := s) (vm0 := s.vm) hS0 (show _ ≤ T63.heap.size by exact (Nat.le_trans (Nat.le_trans (Nat.le_trans (Nat.le_trans (Nat.le_trans (Nat.zero_le _) (E56).1) (Keep.of_wr W57).1) (E58).1) (E60).1) (K63q).1)) X68 hS2_68 hg_68 hZ hown
      obtain ⟨rfl, N68q, K68q, A68q, G68q⟩ := hQ68
      have N68 := Fr.app N63 N68q
      have K68 : Keep h0 T68.heap [] := (K63).trans K68q (allS (Or.inr sz_b58) all0)
      obtain ⟨cq69, kq69, q69a, q69b, q69c⟩ := isOf hZ68' rfl (Exa.ext (own_keep_ext K68) E_CURRENCY)
      obtain ⟨_, _, ⟨T69, L69, k69, n69⟩, -, X69, ⟨Lc69, hQ69, l69, y69, z69⟩, st69⟩ := X68'.virtualBack hx (y := (⟨"com/example/riscontro/riscontro/rules/Field", "takes", "(Lcom/example/riscontro/riscontro/rules/Token;)Z"⟩ : MethodName)) (z := (⟨"com/example/riscontro/riscontro/rules/Field", "takes", "(Lcom/example/riscontro/riscontro/rules/Token;)Z"⟩ : MethodName)) hown68' (mvT hZ68' (hw _ (List.mem_of_getElem? (i := 67) rfl))) (mvT hZ68' (hw _ (List.mem_of_getElem? (i := 68) rfl))) (notFace_of_selects (args := #[]) (mvT hZ68' (hw _ (List.mem_of_getElem? (i := 70) rfl)))) (mvT hZ68' (hw _ (List.mem_of_getElem? (i := 70) rfl))) (mvT hZ68' (hw _ (List.mem_of_getElem? (i := 69) rfl))) (by decide) (backOf (W := 0) (rmX l Z a0 hw [] w_CURRENCY b58 wS wN (0 : Int32) T68.heap n0 (Nat.le_trans Z0 K68.1) (Fld.ext (own_keep_ext K68) V_CURRENCY) G68q A68q (if_neg hNS)) hZ68' (hw _ (List.mem_of_getElem? (i := 71) rfl)) (hw _ (List.mem_of_getElem? (i := 6) rfl)) (by decide) (by decide)) q69a q69c (g := (mkF m 119 #[.val (.int p1), .val (.int p2), .val (.int p3), .val (.int p4), .val (.int (1 : Int32)), .val (.ref w_CURRENCY), .val (.int (1 : Int32)), .val (.ref wN), .val (.ref b56), .val (.ref b58), .val (.int (0 : Int32)), .val (.int (0 : Int32))] [(.ref b58), (.ref w_CURRENCY)])) rfl (by rw [hml]; rfl) (Steps.refl _) (argsL := [(.ref b58)]) (rest := []) (lenOf pd_rm0_3 rfl) rfl (by show 2 * 0 + _ ≤ _; exact Nat.le_of_eq rfl) (hb hby at_119) (fun _ _ => ⟨rfl, rfl, (by decide : 8 + 0 ≤ _), (by decide : 49 + 0 ≤ _)⟩)
      dsimp only [Pt.U, Pt.locs, Pt.cells, Pt.slots] at X69 l69 y69 z69 st69 hQ69
      subst l69 y69 z69
      obtain ⟨rfl, N69q, e69⟩ := hQ69
      have N69 := Fr.app N68 N69q
      obtain ⟨fs, hr, hrun, hended, hRW⟩ := Jvm.Stand.leaveW (s := s) (vm₁ := T68.vm) X69 hS68' (show _ ≤ T69.heap.size by rw [e69]; exact (Nat.le_refl T68.heap.size)) (v := some (.int (1 : Int32))) (fun h => by rw [Bd.returns] at h; cases h)
      refine ⟨_, _, pre38 _ ?_, hrun, hended, _, _, rfl, ?_, hRW.1, hRW.2.1, hRW.2.2.1, hRW.2.2.2.mono (by decide) (by decide)⟩
      · show Steps p.tables e below (T37.setTop (mkF m 19 #[.val (.int p1), .val (.int p2), .val (.int p3), .val (.int p4), .val (.int (1 : Int32)), .val (.ref w_CURRENCY), .unset, .unset, .unset, .unset, .unset, .unset] [(.int (p2 &&& (1 : Int32)))])) _
        refine XS.ifNo X37.here hx rfl (hb hby at_19) rfl ((if0 _ _).trans (feq hc39).1) ?_
        show Steps p.tables e below (T37.setTop (mkF m 22 #[.val (.int p1), .val (.int p2), .val (.int p3), .val (.int p4), .val (.int (1 : Int32)), .val (.ref w_CURRENCY), .unset, .unset, .unset, .unset, .unset, .unset] [])) _
        refine XS.iconst X37.here hx rfl (hb hby at_22) ?_
        show Steps p.tables e below (T37.setTop (mkF m 23 #[.val (.int p1), .val (.int p2), .val (.int p3), .val (.int p4), .val (.int (1 : Int32)), .val (.ref w_CURRENCY), .unset, .unset, .unset, .unset, .unset, .unset] [(.int (1 : Int32))])) _
        refine XS.goto X37.here hx rfl (pc0 := 23) (pc' := 27) rfl (hb hby at_23) (by decide) (by decide) ?_
        show Steps p.tables e below (T37.setTop (mkF m 27 #[.val (.int p1), .val (.int p2), .val (.int p3), .val (.int p4), .val (.int (1 : Int32)), .val (.ref w_CURRENCY), .unset, .unset, .unset, .unset, .unset, .unset] [(.int (1 : Int32))])) _
        refine XS.istore X37.here hx rfl (hb hby at_27) rfl (l' := #[.val (.int p1), .val (.int p2), .val (.int p3), .val (.int p4), .val (.int (1 : Int32)), .val (.ref w_CURRENCY), .val (.int (1 : Int32)), .unset, .unset, .unset, .unset, .unset]) rfl ?_
        show Steps p.tables e below (T37.setTop (mkF m 29 #[.val (.int p1), .val (.int p2), .val (.int p3), .val (.int p4), .val (.int (1 : Int32)), .val (.ref w_CURRENCY), .val (.int (1 : Int32)), .unset, .unset, .unset, .unset, .unset] [])) _
        refine XS.iload X37.here hx rfl (hb hby at_29) rfl ?_
        show Steps p.tables e below (T37.setTop (mkF m 31 #[.val (.int p1), .val (.int p2), .val (.int p3), .val (.int p4), .val (.int (1 : Int32)), .val (.ref w_CURRENCY), .val (.int (1 : Int32)), .unset, .unset, .unset, .unset, .unset] [(.int (1 : Int32))])) _
        refine XS.ifNo X37.here hx rfl (hb hby at_31) rfl ((if0 _ _).trans (feq (by decide : ¬ ((1 : Int32) = (0 : Int32)))).1) ?_
        show Steps p.tables e below (T37.setTop (mkF m 34 #[.val (.int p1), .val (.int p2), .val (.int p3), .val (.int p4), .val (.int (1 : Int32)), .val (.ref w_CURRENCY), .val (.int (1 : Int32)), .unset, .unset, .unset, .unset, .unset] [])) _
        refine st55 _ ?_
        show Steps p.tables e below (T55.setTop (mkF m 37 #[.val (.int p1), .val (.int p2), .val (.int p3), .val (.int p4), .val (.int (1 : Int32)), .val (.ref w_CURRENCY), .val (.int (1 : Int32)), .unset, .unset, .unset, .unset, .unset] [(.ref wN)])) _
        refine XS.goto X55.here hx rfl (pc0 := 37) (pc' := 43) rfl (hb hby at_37) (by decide) (by decide) ?_
        show Steps p.tables e below (T55.setTop (mkF m 43 #[.val (.int p1), .val (.int p2), .val (.int p3), .val (.int p4), .val (.int (1 : Int32)), .val (.ref w_CURRENCY), .val (.int (1 : Int32)), .unset, .unset, .unset, .unset, .unset] [(.ref wN)])) _
        refine XS.astore X55.here hx rfl (hb hby at_43) rfl rfl (l' := #[.val (.int p1), .val (.int p2), .val (.int p3), .val (.int p4), .val (.int (1 : Int32)), .val (.ref w_CURRENCY), .val (.int (1 : Int32)), .val (.ref wN), .unset, .unset, .unset, .unset]) rfl ?_
        show Steps p.tables e below (T55.setTop (mkF m 45 #[.val (.int p1), .val (.int p2), .val (.int p3), .val (.int p4), .val (.int (1 : Int32)), .val (.ref w_CURRENCY), .val (.int (1 : Int32)), .val (.ref wN), .unset, .unset, .unset, .unset] [])) _
        refine XS.iconst X55.here hx rfl (hb hby at_45) ?_
        show Steps p.tables e below (T55.setTop (mkF m 46 #[.val (.int p1), .val (.int p2), .val (.int p3), .val (.int p4), .val (.int (1 : Int32)), .val (.ref w_CURRENCY), .val (.int (1 : Int32)), .val (.ref wN), .unset, .unset, .unset, .unset] [(.int (1 : Int32))])) _
        refine st56 _ ?_
        show Steps p.tables e below (T56.setTop (mkF m 48 #[.val (.int p1), .val (.int p2), .val (.int p3), .val (.int p4), .val (.int (1 : Int32)), .val (.ref w_CURRENCY), .val (.int (1 : Int32)), .val (.ref wN), .unset, .unset, .unset, .unset] [(.ref b56)])) _
        refine XS.dup X56.here hx rfl (hb hby at_48) rfl rfl ?_
        show Steps p.tables e below (T56.setTop (mkF m 49 #[.val (.int p1), .val (.int p2), .val (.int p3), .val (.int p4), .val (.int (1 : Int32)), .val (.ref w_CURRENCY), .val (.int (1 : Int32)), .val (.ref wN), .unset, .unset, .unset, .unset] [(.ref b56), (.ref b56)])) _
        refine XS.iconst X56.here hx rfl (hb hby at_49) ?_
        show Steps p.tables e below (T56.setTop (mkF m 50 #[.val (.int p1), .val (.int p2), .val (.int p3), .val (.int p4), .val (.int (1 : Int32)), .val (.ref w_CURRENCY), .val (.int (1 : Int32)), .val (.ref wN), .unset, .unset, .unset, .unset] [(.int (0 : Int32)), (.ref b56), (.ref b56)])) _
        refine XS.iloadN X56.here hx rfl (hb hby at_50) rfl ?_
        show Steps p.tables e below (T56.setTop (mkF m 51 #[.val (.int p1), .val (.int p2), .val (.int p3), .val (.int p4), .val (.int (1 : Int32)), .val (.ref w_CURRENCY), .val (.int (1 : Int32)), .val (.ref wN), .unset, .unset, .unset, .unset] [(.int p3), (.int (0 : Int32)), (.ref b56), (.ref b56)])) _
        refine XS.sipush X56.here hx rfl (hb hby at_51) ?_
        show Steps p.tables e below (T56.setTop (mkF m 54 #[.val (.int p1), .val (.int p2), .val (.int p3), .val (.int p4), .val (.int (1 : Int32)), .val (.ref w_CURRENCY), .val (.int (1 : Int32)), .val (.ref wN), .unset, .unset, .unset, .unset] [(.int (255 : Int32)), (.int p3), (.int (0 : Int32)), (.ref b56), (.ref b56)])) _
        refine XS.iand X56.here hx rfl (hb hby at_54) rfl ?_
        show Steps p.tables e below (T56.setTop (mkF m 55 #[.val (.int p1), .val (.int p2), .val (.int p3), .val (.int p4), .val (.int (1 : Int32)), .val (.ref w_CURRENCY), .val (.int (1 : Int32)), .val (.ref wN), .unset, .unset, .unset, .unset] [(.int (p3 &&& (255 : Int32))), (.int (0 : Int32)), (.ref b56), (.ref b56)])) _
        refine XS.i2c X56.here hx rfl (hb hby at_55) rfl ?_
        show Steps p.tables e below (T56.setTop (mkF m 56 #[.val (.int p1), .val (.int p2), .val (.int p3), .val (.int p4), .val (.int (1 : Int32)), .val (.ref w_CURRENCY), .val (.int (1 : Int32)), .val (.ref wN), .unset, .unset, .unset, .unset] [(.int ((p3 &&& (255 : Int32)).toUInt32.toUInt16.toUInt32.toInt32)), (.int (0 : Int32)), (.ref b56), (.ref b56)])) _
        refine st57 _ ?_
        show Steps p.tables e below (T57.setTop (mkF m 57 #[.val (.int p1), .val (.int p2), .val (.int p3), .val (.int p4), .val (.int (1 : Int32)), .val (.ref w_CURRENCY), .val (.int (1 : Int32)), .val (.ref wN), .unset, .unset, .unset, .unset] [(.ref b56)])) _
        refine XS.astore X57.here hx rfl (hb hby at_57) rfl rfl (l' := #[.val (.int p1), .val (.int p2), .val (.int p3), .val (.int p4), .val (.int (1 : Int32)), .val (.ref w_CURRENCY), .val (.int (1 : Int32)), .val (.ref wN), .val (.ref b56), .unset, .unset, .unset]) rfl ?_
        show Steps p.tables e below (T57.setTop (mkF m 59 #[.val (.int p1), .val (.int p2), .val (.int p3), .val (.int p4), .val (.int (1 : Int32)), .val (.ref w_CURRENCY), .val (.int (1 : Int32)), .val (.ref wN), .val (.ref b56), .unset, .unset, .unset] [])) _
        refine st58 _ ?_
        show Steps p.tables e below (T58.setTop (mkF m 62 #[.val (.int p1), .val (.int p2), .val (.int p3), .val (.int p4), .val (.int (1 : Int32)), .val (.ref w_CURRENCY), .val (.int (1 : Int32)), .val (.ref wN), .val (.ref b56), .unset, .unset, .unset] [(.ref b58)])) _
        refine XS.dup X58.here hx rfl (hb hby at_62) rfl rfl ?_
        show Steps p.tables e below (T58.setTop (mkF m 63 #[.val (.int p1), .val (.int p2), .val (.int p3), .val (.int p4), .val (.int (1 : Int32)), .val (.ref w_CURRENCY), .val (.int (1 : Int32)), .val (.ref wN), .val (.ref b56), .unset, .unset, .unset] [(.ref b58), (.ref b58)])) _
        refine XS.aload X58.here hx rfl (hb hby at_63) rfl rfl ?_
        show Steps p.tables e below (T58.setTop (mkF m 65 #[.val (.int p1), .val (.int p2), .val (.int p3), .val (.int p4), .val (.int (1 : Int32)), .val (.ref w_CURRENCY), .val (.int (1 : Int32)), .val (.ref wN), .val (.ref b56), .unset, .unset, .unset] [(.ref wN), (.ref b58), (.ref b58)])) _
        refine st60 _ ?_
        show Steps p.tables e below (T60.setTop (mkF m 68 #[.val (.int p1), .val (.int p2), .val (.int p3), .val (.int p4), .val (.int (1 : Int32)), .val (.ref w_CURRENCY), .val (.int (1 : Int32)), .val (.ref wN), .val (.ref b56), .unset, .unset, .unset] [(.ref b60), (.ref wN), (.ref b58), (.ref b58)])) _
        refine XS.dup X60.here hx rfl (hb hby at_68) rfl rfl ?_
        show Steps p.tables e below (T60.setTop (mkF m 69 #[.val (.int p1), .val (.int p2), .val (.int p3), .val (.int p4), .val (.int (1 : Int32)), .val (.ref w_CURRENCY), .val (.int (1 : Int32)), .val (.ref wN), .val (.ref b56), .unset, .unset, .unset] [(.ref b60), (.ref b60), (.ref wN), (.ref b58), (.ref b58)])) _
        refine XS.aload X60.here hx rfl (hb hby at_69) rfl rfl ?_
        show Steps p.tables e below (T60.setTop (mkF m 71 #[.val (.int p1), .val (.int p2), .val (.int p3), .val (.int p4), .val (.int (1 : Int32)), .val (.ref w_CURRENCY), .val (.int (1 : Int32)), .val (.ref wN), .val (.ref b56), .unset, .unset, .unset] [(.ref b56), (.ref b60), (.ref b60), (.ref wN), (.ref b58), (.ref b58)])) _
        refine st63.trans ?_
        show Steps p.tables e below (T63.setTop (mkF m 74 #[.val (.int p1), .val (.int p2), .val (.int p3), .val (.int p4), .val (.int (1 : Int32)), .val (.ref w_CURRENCY), .val (.int (1 : Int32)), .val (.ref wN), .val (.ref b56), .unset, .unset, .unset] [(.ref b60), (.ref wN), (.ref b58), (.ref b58)])) _
        refine XS.iloadN X63.here hx rfl (hb hby at_74) rfl ?_
        show Steps p.tables e below (T63.setTop (mkF m 75 #[.val (.int p1), .val (.int p2), .val (.int p3), .val (.int p4), .val (.int (1 : Int32)), .val (.ref w_CURRENCY), .val (.int (1 : Int32)), .val (.ref wN), .val (.ref b56), .unset, .unset, .unset] [(.int p4), (.ref b60), (.ref wN), (.ref b58), (.ref b58)])) _
        refine X63.ldcInt hx hown (mvT hZ (hw _ (List.mem_of_getElem? (i := 0) rfl))) (g := (mkF m 75 #[.val (.int p1), .val (.int p2), .val (.int p3), .val (.int p4), .val (.int (1 : Int32)), .val (.ref w_CURRENCY), .val (.int (1 : Int32)), .val (.ref wN), .val (.ref b56), .unset, .unset, .unset] [(.int p4), (.ref b60), (.ref wN), (.ref b58), (.ref b58)])) rfl (hb hby at_75) _ ?_
        show Steps p.tables e below (T63.setTop (mkF m 77 #[.val (.int p1), .val (.int p2), .val (.int p3), .val (.int p4), .val (.int (1 : Int32)), .val (.ref w_CURRENCY), .val (.int (1 : Int32)), .val (.ref wN), .val (.ref b56), .unset, .unset, .unset] [(.int (2147483647 : Int32)), (.int p4), (.ref b60), (.ref wN), (.ref b58), (.ref b58)])) _
        refine XS.iand X63.here hx rfl (hb hby at_77) rfl ?_
        show Steps p.tables e below (T63.setTop (mkF m 78 #[.val (.int p1), .val (.int p2), .val (.int p3), .val (.int p4), .val (.int (1 : Int32)), .val (.ref w_CURRENCY), .val (.int (1 : Int32)), .val (.ref wN), .val (.ref b56), .unset, .unset, .unset] [(.int (p4 &&& (2147483647 : Int32))), (.ref b60), (.ref wN), (.ref b58), (.ref b58)])) _
        refine st68.trans ?_
        show Steps p.tables e below (T68.setTop (mkF m 81 #[.val (.int p1), .val (.int p2), .val (.int p3), .val (.int p4), .val (.int (1 : Int32)), .val (.ref w_CURRENCY), .val (.int (1 : Int32)), .val (.ref wN), .val (.ref b56), .unset, .unset, .unset] [(.ref b58)])) _
        refine XS.astore X68'.here hx rfl (hb hby at_81) rfl rfl (l' := #[.val (.int p1), .val (.int p2), .val (.int p3), .val (.int p4), .val (.int (1 : Int32)), .val (.ref w_CURRENCY), .val (.int (1 : Int32)), .val (.ref wN), .val (.ref b56), .val (.ref b58), .unset, .unset]) rfl ?_
        show Steps p.tables e below (T68.setTop (mkF m 83 #[.val (.int p1), .val (.int p2), .val (.int p3), .val (.int p4), .val (.int (1 : Int32)), .val (.ref w_CURRENCY), .val (.int (1 : Int32)), .val (.ref wN), .val (.ref b56), .val (.ref b58), .unset, .unset] [])) _
        refine XS.iload X68'.here hx rfl (hb hby at_83) rfl ?_
        show Steps p.tables e below (T68.setTop (mkF m 85 #[.val (.int p1), .val (.int p2), .val (.int p3), .val (.int p4), .val (.int (1 : Int32)), .val (.ref w_CURRENCY), .val (.int (1 : Int32)), .val (.ref wN), .val (.ref b56), .val (.ref b58), .unset, .unset] [(.int (1 : Int32))])) _
        refine XS.ifNo X68'.here hx rfl (hb hby at_85) rfl ((if0 _ _).trans (feq (by decide : ¬ ((1 : Int32) = (0 : Int32)))).1) ?_
        show Steps p.tables e below (T68.setTop (mkF m 88 #[.val (.int p1), .val (.int p2), .val (.int p3), .val (.int p4), .val (.int (1 : Int32)), .val (.ref w_CURRENCY), .val (.int (1 : Int32)), .val (.ref wN), .val (.ref b56), .val (.ref b58), .unset, .unset] [])) _
        refine XS.iload X68'.here hx rfl (hb hby at_88) rfl ?_
        show Steps p.tables e below (T68.setTop (mkF m 90 #[.val (.int p1), .val (.int p2), .val (.int p3), .val (.int p4), .val (.int (1 : Int32)), .val (.ref w_CURRENCY), .val (.int (1 : Int32)), .val (.ref wN), .val (.ref b56), .val (.ref b58), .unset, .unset] [(.int (1 : Int32))])) _
        refine XS.iconst X68'.here hx rfl (hb hby at_90) ?_
        show Steps p.tables e below (T68.setTop (mkF m 91 #[.val (.int p1), .val (.int p2), .val (.int p3), .val (.int p4), .val (.int (1 : Int32)), .val (.ref w_CURRENCY), .val (.int (1 : Int32)), .val (.ref wN), .val (.ref b56), .val (.ref b58), .unset, .unset] [(.int (5 : Int32)), (.int (1 : Int32))])) _
        refine XS.icmpYes X68'.here hx rfl (pc0 := 91) (pc' := 98) rfl (hb hby at_91) rfl (feq (by decide : ¬ ((1 : Int32) = (5 : Int32)))).2 (by decide) (by decide) ?_
        show Steps p.tables e below (T68.setTop (mkF m 98 #[.val (.int p1), .val (.int p2), .val (.int p3), .val (.int p4), .val (.int (1 : Int32)), .val (.ref w_CURRENCY), .val (.int (1 : Int32)), .val (.ref wN), .val (.ref b56), .val (.ref b58), .unset, .unset] [])) _
        refine XS.iconst X68'.here hx rfl (hb hby at_98) ?_
        show Steps p.tables e below (T68.setTop (mkF m 99 #[.val (.int p1), .val (.int p2), .val (.int p3), .val (.int p4), .val (.int (1 : Int32)), .val (.ref w_CURRENCY), .val (.int (1 : Int32)), .val (.ref wN), .val (.ref b56), .val (.ref b58), .unset, .unset] [(.int (0 : Int32))])) _
        refine XS.istore X68'.here hx rfl (hb hby at_99) rfl (l' := #[.val (.int p1), .val (.int p2), .val (.int p3), .val (.int p4), .val (.int (1 : Int32)), .val (.ref w_CURRENCY), .val (.int (1 : Int32)), .val (.ref wN), .val (.ref b56), .val (.ref b58), .val (.int (0 : Int32)), .unset]) rfl ?_
        show Steps p.tables e below (T68.setTop (mkF m 101 #[.val (.int p1), .val (.int p2), .val (.int p3), .val (.int p4), .val (.int (1 : Int32)), .val (.ref w_CURRENCY), .val (.int (1 : Int32)), .val (.ref wN), .val (.ref b56), .val (.ref b58), .val (.int (0 : Int32)), .unset] [])) _
        refine XS.iload X68'.here hx rfl (hb hby at_101) rfl ?_
        show Steps p.tables e below (T68.setTop (mkF m 103 #[.val (.int p1), .val (.int p2), .val (.int p3), .val (.int p4), .val (.int (1 : Int32)), .val (.ref w_CURRENCY), .val (.int (1 : Int32)), .val (.ref wN), .val (.ref b56), .val (.ref b58), .val (.int (0 : Int32)), .unset] [(.int (0 : Int32))])) _
        refine XS.iload X68'.here hx rfl (hb hby at_103) rfl ?_
        show Steps p.tables e below (T68.setTop (mkF m 105 #[.val (.int p1), .val (.int p2), .val (.int p3), .val (.int p4), .val (.int (1 : Int32)), .val (.ref w_CURRENCY), .val (.int (1 : Int32)), .val (.ref wN), .val (.ref b56), .val (.ref b58), .val (.int (0 : Int32)), .unset] [(.int (1 : Int32)), (.int (0 : Int32))])) _
        refine XS.icmpYes X68'.here hx rfl (pc0 := 105) (pc' := 112) rfl (hb hby at_105) rfl (feq (by decide : ¬ ((0 : Int32) = (1 : Int32)))).2 (by decide) (by decide) ?_
        show Steps p.tables e below (T68.setTop (mkF m 112 #[.val (.int p1), .val (.int p2), .val (.int p3), .val (.int p4), .val (.int (1 : Int32)), .val (.ref w_CURRENCY), .val (.int (1 : Int32)), .val (.ref wN), .val (.ref b56), .val (.ref b58), .val (.int (0 : Int32)), .unset] [])) _
        refine XS.iconst X68'.here hx rfl (hb hby at_112) ?_
        show Steps p.tables e below (T68.setTop (mkF m 113 #[.val (.int p1), .val (.int p2), .val (.int p3), .val (.int p4), .val (.int (1 : Int32)), .val (.ref w_CURRENCY), .val (.int (1 : Int32)), .val (.ref wN), .val (.ref b56), .val (.ref b58), .val (.int (0 : Int32)), .unset] [(.int (0 : Int32))])) _
        refine XS.istore X68'.here hx rfl (hb hby at_113) rfl (l' := #[.val (.int p1), .val (.int p2), .val (.int p3), .val (.int p4), .val (.int (1 : Int32)), .val (.ref w_CURRENCY), .val (.int (1 : Int32)), .val (.ref wN), .val (.ref b56), .val (.ref b58), .val (.int (0 : Int32)), .val (.int (0 : Int32))]) rfl ?_
        show Steps p.tables e below (T68.setTop (mkF m 115 #[.val (.int p1), .val (.int p2), .val (.int p3), .val (.int p4), .val (.int (1 : Int32)), .val (.ref w_CURRENCY), .val (.int (1 : Int32)), .val (.ref wN), .val (.ref b56), .val (.ref b58), .val (.int (0 : Int32)), .val (.int (0 : Int32))] [])) _
        refine XS.aload X68'.here hx rfl (hb hby at_115) rfl rfl ?_
        show Steps p.tables e below (T68.setTop (mkF m 117 #[.val (.int p1), .val (.int p2), .val (.int p3), .val (.int p4), .val (.int (1 : Int32)), .val (.ref w_CURRENCY), .val (.int (1 : Int32)), .val (.ref wN), .val (.ref b56), .val (.ref b58), .val (.int (0 : Int32)), .val (.int (0 : Int32))] [(.ref w_CURRENCY)])) _
        refine XS.aload X68'.here hx rfl (hb hby at_117) rfl rfl ?_
        show Steps p.tables e below (T68.setTop (mkF m 119 #[.val (.int p1), .val (.int p2), .val (.int p3), .val (.int p4), .val (.int (1 : Int32)), .val (.ref w_CURRENCY), .val (.int (1 : Int32)), .val (.ref wN), .val (.ref b56), .val (.ref b58), .val (.int (0 : Int32)), .val (.int (0 : Int32))] [(.ref b58), (.ref w_CURRENCY)])) _
        refine st69.trans ?_
        show Steps p.tables e below (T69.setTop (mkF m 122 #[.val (.int p1), .val (.int p2), .val (.int p3), .val (.int p4), .val (.int (1 : Int32)), .val (.ref w_CURRENCY), .val (.int (1 : Int32)), .val (.ref wN), .val (.ref b56), .val (.ref b58), .val (.int (0 : Int32)), .val (.int (0 : Int32))] [(.int (0 : Int32))])) _
        refine XS.iload X69.here hx rfl (hb hby at_122) rfl ?_
        show Steps p.tables e below (T69.setTop (mkF m 124 #[.val (.int p1), .val (.int p2), .val (.int p3), .val (.int p4), .val (.int (1 : Int32)), .val (.ref w_CURRENCY), .val (.int (1 : Int32)), .val (.ref wN), .val (.ref b56), .val (.ref b58), .val (.int (0 : Int32)), .val (.int (0 : Int32))] [(.int (0 : Int32)), (.int (0 : Int32))])) _
        refine XS.icmpNo X69.here hx rfl (hb hby at_124) rfl (teq (rfl : (0 : Int32) = (0 : Int32))).2 ?_
        show Steps p.tables e below (T69.setTop (mkF m 127 #[.val (.int p1), .val (.int p2), .val (.int p3), .val (.int p4), .val (.int (1 : Int32)), .val (.ref w_CURRENCY), .val (.int (1 : Int32)), .val (.ref wN), .val (.ref b56), .val (.ref b58), .val (.int (0 : Int32)), .val (.int (0 : Int32))] [])) _
        refine XS.iconst X69.here hx rfl (hb hby at_127) ?_
        show Steps p.tables e below (T69.setTop (mkF m 128 #[.val (.int p1), .val (.int p2), .val (.int p3), .val (.int p4), .val (.int (1 : Int32)), .val (.ref w_CURRENCY), .val (.int (1 : Int32)), .val (.ref wN), .val (.ref b56), .val (.ref b58), .val (.int (0 : Int32)), .val (.int (0 : Int32))] [(.int (1 : Int32))])) _
        refine XS.goto X69.here hx rfl (pc0 := 128) (pc' := 132) rfl (hb hby at_128) (by decide) (by decide) ?_
        show Steps p.tables e below (T69.setTop (mkF m 132 #[.val (.int p1), .val (.int p2), .val (.int p3), .val (.int p4), .val (.int (1 : Int32)), .val (.ref w_CURRENCY), .val (.int (1 : Int32)), .val (.ref wN), .val (.ref b56), .val (.ref b58), .val (.int (0 : Int32)), .val (.int (0 : Int32))] [(.int (1 : Int32))])) _
        exact retN X69 hx (t := .boolean) Bd.returns (by simp) (hb hby at_132) hr
      · show Q_rm0 Z p1 p2 p3 p4 w_AMOUNT w_CURRENCY w_MERCHANT_ID w_IP_ADDRESS w_DEVICE_ID w_USER_AGE w_USER_REGION wN wS zc h0 n0 _ T69.heap _
        rw [e69]
        exact ⟨rfl, N69⟩
  · have pre70 : ∀ t, Steps p.tables e below (s₁.setTop (mkF m 7 #[.val (.int p1), .val (.int p2), .val (.int p3), .val (.int p4), .unset, .unset, .unset, .unset, .unset, .unset, .unset, .unset] [(.int (2 : Int32))])) t → Steps p.tables e below (s₁.setTop (entryFrame m #[(.int p1), (.int p2), (.int p3), (.int p4)] maxLocals)) t := fun t k => pre1 t (by rw [hk]; exact k)
    obtain ⟨_, _, ⟨T71, L71, k71, n71⟩, -, X71, ⟨Lc71, hQ71, l71, y71, z71⟩, st71⟩ := Jvm.LawKit.callS X0 hx (y := (⟨"com/example/riscontro/riscontro/rules/FieldTakesPinLaw", "pick", "(I)Lcom/example/riscontro/riscontro/rules/Field;"⟩ : MethodName)) hown (mvT hZ (hw _ (List.mem_of_getElem? (i := 1) rfl))) (mvT hZ (hw _ (List.mem_of_getElem? (i := 2) rfl))) (mvT hZ (hw _ (List.mem_of_getElem? (i := 3) rfl))) (mvT hZ (hw _ (List.mem_of_getElem? (i := 4) rfl))) (by decide) (backOf (W := 0) (rm1 l Z a0 hw [] (2 : Int32) w_AMOUNT w_CURRENCY w_MERCHANT_ID w_IP_ADDRESS w_DEVICE_ID w_USER_AGE w_USER_REGION w_MERCHANT_ID h0 n0 Z0 S_AMOUNT S_CURRENCY S_MERCHANT_ID S_IP_ADDRESS S_DEVICE_ID S_USER_AGE S_USER_REGION rfl) hZ (hw _ (List.mem_of_getElem? (i := 4) rfl)) (hw _ (List.mem_of_getElem? (i := 3) rfl)) (by decide) (by decide)) (g := (mkF m 11 #[.val (.int p1), .val (.int p2), .val (.int p3), .val (.int p4), .val (.int (2 : Int32)), .unset, .unset, .unset, .unset, .unset, .unset, .unset] [(.int (2 : Int32))])) rfl (by rw [hml]; rfl) (argsL := [(.int (2 : Int32))]) (rest := []) (lenOf pd_rm0_0 rfl) rfl (by show 2 * 0 + _ ≤ _; exact Nat.le_of_eq rfl) (hb hby at_11) (fun _ _ => ⟨rfl, e0, (by decide : 0 + 0 ≤ _), (by decide : 0 + 0 ≤ _)⟩)
    dsimp only [Pt.U, Pt.locs, Pt.cells, Pt.slots] at X71 l71 y71 z71 st71 hQ71
    subst l71 y71 z71
    obtain ⟨rfl, N71q, e71⟩ := hQ71
    have N71 := Fr.app N0 N71q
    have pre72 : ∀ t, Steps p.tables e below (T71.setTop (mkF m 19 #[.val (.int p1), .val (.int p2), .val (.int p3), .val (.int p4), .val (.int (2 : Int32)), .val (.ref w_MERCHANT_ID), .unset, .unset, .unset, .unset, .unset, .unset] [(.int (p2 &&& (1 : Int32)))])) t → Steps p.tables e below (s₁.setTop (entryFrame m #[(.int p1), (.int p2), (.int p3), (.int p4)] maxLocals)) t := fun t k => pre70 t (by
        show Steps p.tables e below (s₁.setTop (mkF m 7 #[.val (.int p1), .val (.int p2), .val (.int p3), .val (.int p4), .unset, .unset, .unset, .unset, .unset, .unset, .unset, .unset] [(.int (2 : Int32))])) _
        refine XS.istore X0.here hx rfl (hb hby at_7) rfl (l' := #[.val (.int p1), .val (.int p2), .val (.int p3), .val (.int p4), .val (.int (2 : Int32)), .unset, .unset, .unset, .unset, .unset, .unset, .unset]) rfl ?_
        show Steps p.tables e below (s₁.setTop (mkF m 9 #[.val (.int p1), .val (.int p2), .val (.int p3), .val (.int p4), .val (.int (2 : Int32)), .unset, .unset, .unset, .unset, .unset, .unset, .unset] [])) _
        refine XS.iload X0.here hx rfl (hb hby at_9) rfl ?_
        show Steps p.tables e below (s₁.setTop (mkF m 11 #[.val (.int p1), .val (.int p2), .val (.int p3), .val (.int p4), .val (.int (2 : Int32)), .unset, .unset, .unset, .unset, .unset, .unset, .unset] [(.int (2 : Int32))])) _
        refine st71 _ ?_
        show Steps p.tables e below (T71.setTop (mkF m 14 #[.val (.int p1), .val (.int p2), .val (.int p3), .val (.int p4), .val (.int (2 : Int32)), .unset, .unset, .unset, .unset, .unset, .unset, .unset] [(.ref w_MERCHANT_ID)])) _
        refine XS.astore X71.here hx rfl (hb hby at_14) rfl rfl (l' := #[.val (.int p1), .val (.int p2), .val (.int p3), .val (.int p4), .val (.int (2 : Int32)), .val (.ref w_MERCHANT_ID), .unset, .unset, .unset, .unset, .unset, .unset]) rfl ?_
        show Steps p.tables e below (T71.setTop (mkF m 16 #[.val (.int p1), .val (.int p2), .val (.int p3), .val (.int p4), .val (.int (2 : Int32)), .val (.ref w_MERCHANT_ID), .unset, .unset, .unset, .unset, .unset, .unset] [])) _
        refine XS.iloadN X71.here hx rfl (hb hby at_16) rfl ?_
        show Steps p.tables e below (T71.setTop (mkF m 17 #[.val (.int p1), .val (.int p2), .val (.int p3), .val (.int p4), .val (.int (2 : Int32)), .val (.ref w_MERCHANT_ID), .unset, .unset, .unset, .unset, .unset, .unset] [(.int p2)])) _
        refine XS.iconst X71.here hx rfl (hb hby at_17) ?_
        show Steps p.tables e below (T71.setTop (mkF m 18 #[.val (.int p1), .val (.int p2), .val (.int p3), .val (.int p4), .val (.int (2 : Int32)), .val (.ref w_MERCHANT_ID), .unset, .unset, .unset, .unset, .unset, .unset] [(.int (1 : Int32)), (.int p2)])) _
        refine XS.iand X71.here hx rfl (hb hby at_18) rfl ?_
        exact k)
    by_cases hc73 : (p2 &&& (1 : Int32)) = (0 : Int32)
    · obtain ⟨T74, X74, e74, st74⟩ := getS2 X71 hx hZ hown (host := "") (Or.inl (hw _ (List.mem_of_getElem? (i := 84) rfl))) Via.refl e71 S_STRING (g := (mkF m 40 #[.val (.int p1), .val (.int p2), .val (.int p3), .val (.int p4), .val (.int (2 : Int32)), .val (.ref w_MERCHANT_ID), .val (.int (0 : Int32)), .unset, .unset, .unset, .unset, .unset] [])) rfl (hb hby at_40)
      obtain ⟨T75, h75, k75, X75, e75, E75, A75, st75⟩ := newP X74 hx hZ (hw _ (List.mem_of_getElem? (i := 11) rfl)) e74 (g := (mkF m 46 #[.val (.int p1), .val (.int p2), .val (.int p3), .val (.int p4), .val (.int (2 : Int32)), .val (.ref w_MERCHANT_ID), .val (.int (0 : Int32)), .val (.ref wS), .unset, .unset, .unset, .unset] [(.int (1 : Int32))])) rfl (hb hby at_46) rfl (by decide) (cap := 1) (by decide) (by decide) (by decide) (by decide)
      obtain ⟨b75, g75⟩ : ∃ z, z = h0.size := ⟨_, rfl⟩
      rw [← g75] at A75 st75
      have V_b75 : Arv Z h75 b75 k75 .char (1 : Int32) [(.int (0 : Int32))] (.int (0 : Int32)) := (Arv.new A75 (by decide)).pad (pad_rep [] (.int (0 : Int32)) 1)
      have g_b75 : n0 ≤ b75 := Nat.le_trans Z0 (Nat.le_of_eq g75.symm)
      have sz_b75 : h0.size ≤ b75 := Nat.le_trans ((Keep.refl h0 [])).1 (Nat.le_of_eq g75.symm)
      have K75 : Keep h0 h75 [] := ((Keep.refl h0 [])).ext E75
      obtain ⟨cl76, Ar76, q76, S76, N76_, H76, G76⟩ := id V_b75
      obtain ⟨T76, h76, X76, e76, W76, st76⟩ := stC X75 hx hZ e75 Ar76 (j := (0 : Int32)) (inb_of S76 ⟨by decide, by decide⟩) (g := (mkF m 56 #[.val (.int p1), .val (.int p2), .val (.int p3), .val (.int p4), .val (.int (2 : Int32)), .val (.ref w_MERCHANT_ID), .val (.int (0 : Int32)), .val (.ref wS), .unset, .unset, .unset, .unset] [(.int ((p3 &&& (255 : Int32)).toUInt32.toUInt16.toUInt32.toInt32)), (.int (0 : Int32)), (.ref b75), (.ref b75)])) rfl rfl (hb hby at_56)
      have V76 := Arv.set Ar76 q76 S76 N76_ H76 G76 (fits_nar_char _) W76 0 rfl (Nat.le_of_ble_eq_true rfl)
      have K76 : Keep h0 h76 [] := (K75).wr W76 (Or.inr sz_b75)
      have N76 := Fr.snoc X76 N71 g_b75
      obtain ⟨T77, h77, X77, e77, E77, A77, D77, -, st77⟩ := newO X76 hx hZ hown (hw _ (List.mem_of_getElem? (i := 12) rfl)) (hw _ (List.mem_of_getElem? (i := 13) rfl)) (hw _ (List.mem_of_getElem? (i := 14) rfl)) e76 (g := (mkF m 59 #[.val (.int p1), .val (.int p2), .val (.int p3), .val (.int p4), .val (.int (2 : Int32)), .val (.ref w_MERCHANT_ID), .val (.int (0 : Int32)), .val (.ref wS), .val (.ref b75), .unset, .unset, .unset] [])) rfl (hb hby at_59) (by decide) (by decide)
      obtain ⟨b77, g77⟩ : ∃ z, z = h76.size := ⟨_, rfl⟩
      rw [← g77] at A77 D77 st77
      have ne_b75_b77 : b75 ≠ b77 := Nat.ne_of_lt (Nat.lt_of_lt_of_le V76.lt (Nat.le_of_eq g77.symm))
      have g_b77 : n0 ≤ b77 := Nat.le_trans (Nat.le_trans Z0 K76.1) (Nat.le_of_eq g77.symm)
      have sz_b77 : h0.size ≤ b77 := Nat.le_trans (K76).1 (Nat.le_of_eq g77.symm)
      have K77 : Keep h0 h77 [] := (K76).ext E77
      have F77_kind : Fld Z h77 b77 "com/example/riscontro/riscontro/rules/Token" "kind" "Lcom/example/riscontro/riscontro/rules/Token$Kind;" .null := D77 (Or.inr (hw _ (List.mem_of_getElem? (i := 62) rfl))) (ty := (.object "com/example/riscontro/riscontro/rules/Token$Kind")) (by decide)
      have F77_text : Fld Z h77 b77 "com/example/riscontro/riscontro/rules/Token" "text" "Ljava/lang/String;" .null := D77 (Or.inr (hw _ (List.mem_of_getElem? (i := 64) rfl))) (ty := (.object "java/lang/String")) (by decide)
      have F77_start : Fld Z h77 b77 "com/example/riscontro/riscontro/rules/Token" "start" "I" (.int (0 : Int32)) := D77 (Or.inr (hw _ (List.mem_of_getElem? (i := 66) rfl))) (ty := .int) (by decide)
      have f78 := (V76.ext E77)
      obtain ⟨T79, h79, X79, e79, E79, A79, D79, -, st79⟩ := newO X77 hx hZ hown (hw _ (List.mem_of_getElem? (i := 15) rfl)) (hw _ (List.mem_of_getElem? (i := 16) rfl)) (hw _ (List.mem_of_getElem? (i := 17) rfl)) e77 (g := (mkF m 65 #[.val (.int p1), .val (.int p2), .val (.int p3), .val (.int p4), .val (.int (2 : Int32)), .val (.ref w_MERCHANT_ID), .val (.int (0 : Int32)), .val (.ref wS), .val (.ref b75), .unset, .unset, .unset] [(.ref wS), (.ref b77), (.ref b77)])) rfl (hb hby at_65) (by decide) (by decide)
      obtain ⟨b79, g79⟩ : ∃ z, z = h77.size := ⟨_, rfl⟩
      rw [← g79] at A79 D79 st79
      have ne_b75_b79 : b75 ≠ b79 := Nat.ne_of_lt (Nat.lt_of_lt_of_le f78.lt (Nat.le_of_eq g79.symm))
      have ne_b77_b79 : b77 ≠ b79 := Nat.ne_of_lt (Nat.lt_of_lt_of_le A77.lt (Nat.le_of_eq g79.symm))
      have g_b79 : n0 ≤ b79 := Nat.le_trans (Nat.le_trans Z0 K77.1) (Nat.le_of_eq g79.symm)
      have sz_b79 : h0.size ≤ b79 := Nat.le_trans (K77).1 (Nat.le_of_eq g79.symm)
      have K79 : Keep h0 h79 [] := (K77).ext E79
      have F79_coder : Fld Z h79 b79 "java/lang/String" "coder" "B" (.int (0 : Int32)) := D79 (Or.inr (hw _ (List.mem_of_getElem? (i := 41) rfl))) (ty := .byte) (by decide)
      have F79_value : Fld Z h79 b79 "java/lang/String" "value" "[B" .null := D79 (Or.inr (hw _ (List.mem_of_getElem? (i := 43) rfl))) (ty := (.array .byte)) (by decide)
      have f80 := (f78.ext E79)
      have V81 : Arv Z h79 b75 _ .char (1 : Int32) (([nar .char ((p3 &&& (255 : Int32)).toUInt32.toUInt16.toUInt32.toInt32)] : List Int32).map Value.int) (.int (0 : Int32)) := f80
      have hws : ∀ d ∈ StrChars.Road.words, d.before a0 Z = true := fun d hd => hw d ((by decide +kernel : ∀ d ∈ StrChars.Road.words, d ∈ tables_1) d hd)
      obtain ⟨_, _, ⟨T82, L82, k82, n82⟩, -, X82, ⟨Lc82, hQ82, l82, y82, z82⟩, st82⟩ := X79.specialBack hx (y := (⟨"java/lang/String", "<init>", "([C)V"⟩ : MethodName)) rfl hown (mvT hZ (hw _ (List.mem_of_getElem? (i := 18) rfl))) (mvT hZ (hw _ (List.mem_of_getElem? (i := 19) rfl))) (mvT hZ (hw _ (List.mem_of_getElem? (i := 20) rfl))) (by decide) (StrChars.Road.backV (W := 4) hZ hws (kI := 4) (hw _ (List.mem_of_getElem? (i := 16) rfl)) (cs := [nar .char ((p3 &&& (255 : Int32)).toUInt32.toUInt16.toUInt32.toInt32)]) (bs := ([nar .char ((p3 &&& (255 : Int32)).toUInt32.toUInt16.toUInt32.toInt32)] : List Int32).map (fun c => c.toInt8.toInt32)) (n := 1) g_b79 (Nat.le_trans Z0 K79.1) A79 F79_value F79_coder V81 (Sta.ext (own_keep_ext K79) S_C) hzc rfl rfl (by decide) (by decide) (own_chrb p3) rfl (by decide) (by decide)) (g := (mkF m 71 #[.val (.int p1), .val (.int p2), .val (.int p3), .val (.int p4), .val (.int (2 : Int32)), .val (.ref w_MERCHANT_ID), .val (.int (0 : Int32)), .val (.ref wS), .val (.ref b75), .unset, .unset, .unset] [(.ref b75), (.ref b79), (.ref b79), (.ref wS), (.ref b77), (.ref b77)])) rfl (by rw [hml]; rfl) (Steps.refl _) (a := b79) (argsL := [(.ref b75)]) (rest := [(.ref b79), (.ref wS), (.ref b77), (.ref b77)]) (lenOf pd_rm0_1 rfl) rfl (by show 2 * 0 + _ ≤ _; exact Nat.le_of_eq rfl) (hb hby at_71) (fun _ _ => ⟨rfl, e79, (by decide : 3 + 1 ≤ _), (by decide : 8 + 1 ≤ _)⟩)
      dsimp only [Pt.U, Pt.locs, Pt.cells, Pt.slots] at X82 l82 y82 z82 st82 hQ82
      subst l82 y82 z82
      obtain ⟨rfl, N82q, K82q, A82q, C82q, t82, k82, g821, g822, g823, F82q, B82q⟩ := hQ82
      have N82 := Fr.app N76 N82q
      have K82 : Keep h0 T82.heap [] := (K79).trans K82q (allS (Or.inr sz_b79) all0)
      have f83 := ((Exa.ext E79 A77).keep K82q)
      have f84 := ((Fld.ext E79 F77_kind).keep K82q (ninS ne_b77_b79 nin0))
      have f85 := ((Fld.ext E79 F77_text).keep K82q (ninS ne_b77_b79 nin0))
      have f86 := ((Fld.ext E79 F77_start).keep K82q (ninS ne_b77_b79 nin0))
      obtain ⟨_, _, ⟨T87, L87, k87, n87⟩, -, X87, hS2_87, hg_87, ⟨Lc87, hQ87, l87, y87, z87⟩, st87⟩ := X82.specialBackS hx (y := (⟨"com/example/riscontro/riscontro/rules/Token", "<init>", "(Lcom/example/riscontro/riscontro/rules/Token$Kind;Ljava/lang/String;I)V"⟩ : MethodName)) rfl hown (mvT hZ (hw _ (List.mem_of_getElem? (i := 44) rfl))) (mvT hZ (hw _ (List.mem_of_getElem? (i := 45) rfl))) (mvT hZ (hw _ (List.mem_of_getElem? (i := 46) rfl))) (by decide) (backOfS (W := 1) (rmT l Z a0 hw [] b77 wS b79 (p4 &&& (2147483647 : Int32)) T82.heap n0 (Nat.le_trans Z0 K82.1) f83 f84 f85 f86 g_b77 (own_start p4)) hZ (hw _ (List.mem_of_getElem? (i := 46) rfl)) (hw _ (List.mem_of_getElem? (i := 14) rfl)) (by decide) (by decide)) (g := (mkF m 78 #[.val (.int p1), .val (.int p2), .val (.int p3), .val (.int p4), .val (.int (2 : Int32)), .val (.ref w_MERCHANT_ID), .val (.int (0 : Int32)), .val (.ref wS), .val (.ref b75), .unset, .unset, .unset] [(.int (p4 &&& (2147483647 : Int32))), (.ref b79), (.ref wS), (.ref b77), (.ref b77)])) rfl (by rw [hml]; rfl) (Steps.refl _) (a := b77) (argsL := [(.ref wS), (.ref b79), (.int (p4 &&& (2147483647 : Int32)))]) (rest := [(.ref b77)]) (lenOf pd_rm0_2 rfl) rfl (by show 2 * 0 + _ ≤ _; exact Nat.le_of_eq rfl) (hb hby at_78) (fun _ _ => ⟨rfl, rfl, (by decide : 4 + 4 ≤ _), (by decide : 9 + 40 ≤ _)⟩)
      dsimp only [Pt.U, Pt.locs, Pt.cells, Pt.slots] at X87 l87 y87 z87 st87 hQ87
      subst l87 y87 z87
      obtain ⟨X87', hS87', hZ87', hown87'⟩ := rebS (s := s) (vm0 := s.vm) hS0 (show _ ≤ T82.heap.size by exact (Nat.le_trans (Nat.le_trans (Nat.le_trans (Nat.le_trans (Nat.le_trans (Nat.zero_le _) (E75).1) (Keep.of_wr W76).1) (E77).1) (E79).1) (K82q).1)) X87 hS2_87 hg_87 hZ hown
      obtain ⟨rfl, N87q, K87q, A87q, G87q⟩ := hQ87
      have N87 := Fr.app N82 N87q
      have K87 : Keep h0 T87.heap [] := (K82).trans K87q (allS (Or.inr sz_b77) all0)
      obtain ⟨cq88, kq88, q88a, q88b, q88c⟩ := isOf hZ87' rfl (Exa.ext (own_keep_ext K87) E_MERCHANT_ID)
      obtain ⟨_, _, ⟨T88, L88, k88, n88⟩, -, X88, ⟨Lc88, hQ88, l88, y88, z88⟩, st88⟩ := X87'.virtualBack hx (y := (⟨"com/example/riscontro/riscontro/rules/Field", "takes", "(Lcom/example/riscontro/riscontro/rules/Token;)Z"⟩ : MethodName)) (z := (⟨"com/example/riscontro/riscontro/rules/Field", "takes", "(Lcom/example/riscontro/riscontro/rules/Token;)Z"⟩ : MethodName)) hown87' (mvT hZ87' (hw _ (List.mem_of_getElem? (i := 67) rfl))) (mvT hZ87' (hw _ (List.mem_of_getElem? (i := 68) rfl))) (notFace_of_selects (args := #[]) (mvT hZ87' (hw _ (List.mem_of_getElem? (i := 70) rfl)))) (mvT hZ87' (hw _ (List.mem_of_getElem? (i := 70) rfl))) (mvT hZ87' (hw _ (List.mem_of_getElem? (i := 69) rfl))) (by decide) (backOf (W := 0) (rmX l Z a0 hw [] w_MERCHANT_ID b77 wS wS (1 : Int32) T87.heap n0 (Nat.le_trans Z0 K87.1) (Fld.ext (own_keep_ext K87) V_MERCHANT_ID) G87q A87q (if_pos rfl)) hZ87' (hw _ (List.mem_of_getElem? (i := 71) rfl)) (hw _ (List.mem_of_getElem? (i := 6) rfl)) (by decide) (by decide)) q88a q88c (g := (mkF m 119 #[.val (.int p1), .val (.int p2), .val (.int p3), .val (.int p4), .val (.int (2 : Int32)), .val (.ref w_MERCHANT_ID), .val (.int (0 : Int32)), .val (.ref wS), .val (.ref b75), .val (.ref b77), .val (.int (0 : Int32)), .val (.int (1 : Int32))] [(.ref b77), (.ref w_MERCHANT_ID)])) rfl (by rw [hml]; rfl) (Steps.refl _) (argsL := [(.ref b77)]) (rest := []) (lenOf pd_rm0_3 rfl) rfl (by show 2 * 0 + _ ≤ _; exact Nat.le_of_eq rfl) (hb hby at_119) (fun _ _ => ⟨rfl, rfl, (by decide : 8 + 0 ≤ _), (by decide : 49 + 0 ≤ _)⟩)
      dsimp only [Pt.U, Pt.locs, Pt.cells, Pt.slots] at X88 l88 y88 z88 st88 hQ88
      subst l88 y88 z88
      obtain ⟨rfl, N88q, e88⟩ := hQ88
      have N88 := Fr.app N87 N88q
      obtain ⟨fs, hr, hrun, hended, hRW⟩ := Jvm.Stand.leaveW (s := s) (vm₁ := T87.vm) X88 hS87' (show _ ≤ T88.heap.size by rw [e88]; exact (Nat.le_refl T87.heap.size)) (v := some (.int (1 : Int32))) (fun h => by rw [Bd.returns] at h; cases h)
      refine ⟨_, _, pre72 _ ?_, hrun, hended, _, _, rfl, ?_, hRW.1, hRW.2.1, hRW.2.2.1, hRW.2.2.2.mono (by decide) (by decide)⟩
      · show Steps p.tables e below (T71.setTop (mkF m 19 #[.val (.int p1), .val (.int p2), .val (.int p3), .val (.int p4), .val (.int (2 : Int32)), .val (.ref w_MERCHANT_ID), .unset, .unset, .unset, .unset, .unset, .unset] [(.int (p2 &&& (1 : Int32)))])) _
        refine XS.ifYes X71.here hx rfl (pc0 := 19) (pc' := 26) rfl (hb hby at_19) rfl ((if0 _ _).trans (teq hc73).1) (by decide) (by decide) ?_
        show Steps p.tables e below (T71.setTop (mkF m 26 #[.val (.int p1), .val (.int p2), .val (.int p3), .val (.int p4), .val (.int (2 : Int32)), .val (.ref w_MERCHANT_ID), .unset, .unset, .unset, .unset, .unset, .unset] [])) _
        refine XS.iconst X71.here hx rfl (hb hby at_26) ?_
        show Steps p.tables e below (T71.setTop (mkF m 27 #[.val (.int p1), .val (.int p2), .val (.int p3), .val (.int p4), .val (.int (2 : Int32)), .val (.ref w_MERCHANT_ID), .unset, .unset, .unset, .unset, .unset, .unset] [(.int (0 : Int32))])) _
        refine XS.istore X71.here hx rfl (hb hby at_27) rfl (l' := #[.val (.int p1), .val (.int p2), .val (.int p3), .val (.int p4), .val (.int (2 : Int32)), .val (.ref w_MERCHANT_ID), .val (.int (0 : Int32)), .unset, .unset, .unset, .unset, .unset]) rfl ?_
        show Steps p.tables e below (T71.setTop (mkF m 29 #[.val (.int p1), .val (.int p2), .val (.int p3), .val (.int p4), .val (.int (2 : Int32)), .val (.ref w_MERCHANT_ID), .val (.int (0 : Int32)), .unset, .unset, .unset, .unset, .unset] [])) _
        refine XS.iload X71.here hx rfl (hb hby at_29) rfl ?_
        show Steps p.tables e below (T71.setTop (mkF m 31 #[.val (.int p1), .val (.int p2), .val (.int p3), .val (.int p4), .val (.int (2 : Int32)), .val (.ref w_MERCHANT_ID), .val (.int (0 : Int32)), .unset, .unset, .unset, .unset, .unset] [(.int (0 : Int32))])) _
        refine XS.ifYes X71.here hx rfl (pc0 := 31) (pc' := 40) rfl (hb hby at_31) rfl ((if0 _ _).trans (teq (rfl : (0 : Int32) = (0 : Int32))).1) (by decide) (by decide) ?_
        show Steps p.tables e below (T71.setTop (mkF m 40 #[.val (.int p1), .val (.int p2), .val (.int p3), .val (.int p4), .val (.int (2 : Int32)), .val (.ref w_MERCHANT_ID), .val (.int (0 : Int32)), .unset, .unset, .unset, .unset, .unset] [])) _
        refine st74 _ ?_
        show Steps p.tables e below (T74.setTop (mkF m 43 #[.val (.int p1), .val (.int p2), .val (.int p3), .val (.int p4), .val (.int (2 : Int32)), .val (.ref w_MERCHANT_ID), .val (.int (0 : Int32)), .unset, .unset, .unset, .unset, .unset] [(.ref wS)])) _
        refine XS.astore X74.here hx rfl (hb hby at_43) rfl rfl (l' := #[.val (.int p1), .val (.int p2), .val (.int p3), .val (.int p4), .val (.int (2 : Int32)), .val (.ref w_MERCHANT_ID), .val (.int (0 : Int32)), .val (.ref wS), .unset, .unset, .unset, .unset]) rfl ?_
        show Steps p.tables e below (T74.setTop (mkF m 45 #[.val (.int p1), .val (.int p2), .val (.int p3), .val (.int p4), .val (.int (2 : Int32)), .val (.ref w_MERCHANT_ID), .val (.int (0 : Int32)), .val (.ref wS), .unset, .unset, .unset, .unset] [])) _
        refine XS.iconst X74.here hx rfl (hb hby at_45) ?_
        show Steps p.tables e below (T74.setTop (mkF m 46 #[.val (.int p1), .val (.int p2), .val (.int p3), .val (.int p4), .val (.int (2 : Int32)), .val (.ref w_MERCHANT_ID), .val (.int (0 : Int32)), .val (.ref wS), .unset, .unset, .unset, .unset] [(.int (1 : Int32))])) _
        refine st75 _ ?_
        show Steps p.tables e below (T75.setTop (mkF m 48 #[.val (.int p1), .val (.int p2), .val (.int p3), .val (.int p4), .val (.int (2 : Int32)), .val (.ref w_MERCHANT_ID), .val (.int (0 : Int32)), .val (.ref wS), .unset, .unset, .unset, .unset] [(.ref b75)])) _
        refine XS.dup X75.here hx rfl (hb hby at_48) rfl rfl ?_
        show Steps p.tables e below (T75.setTop (mkF m 49 #[.val (.int p1), .val (.int p2), .val (.int p3), .val (.int p4), .val (.int (2 : Int32)), .val (.ref w_MERCHANT_ID), .val (.int (0 : Int32)), .val (.ref wS), .unset, .unset, .unset, .unset] [(.ref b75), (.ref b75)])) _
        refine XS.iconst X75.here hx rfl (hb hby at_49) ?_
        show Steps p.tables e below (T75.setTop (mkF m 50 #[.val (.int p1), .val (.int p2), .val (.int p3), .val (.int p4), .val (.int (2 : Int32)), .val (.ref w_MERCHANT_ID), .val (.int (0 : Int32)), .val (.ref wS), .unset, .unset, .unset, .unset] [(.int (0 : Int32)), (.ref b75), (.ref b75)])) _
        refine XS.iloadN X75.here hx rfl (hb hby at_50) rfl ?_
        show Steps p.tables e below (T75.setTop (mkF m 51 #[.val (.int p1), .val (.int p2), .val (.int p3), .val (.int p4), .val (.int (2 : Int32)), .val (.ref w_MERCHANT_ID), .val (.int (0 : Int32)), .val (.ref wS), .unset, .unset, .unset, .unset] [(.int p3), (.int (0 : Int32)), (.ref b75), (.ref b75)])) _
        refine XS.sipush X75.here hx rfl (hb hby at_51) ?_
        show Steps p.tables e below (T75.setTop (mkF m 54 #[.val (.int p1), .val (.int p2), .val (.int p3), .val (.int p4), .val (.int (2 : Int32)), .val (.ref w_MERCHANT_ID), .val (.int (0 : Int32)), .val (.ref wS), .unset, .unset, .unset, .unset] [(.int (255 : Int32)), (.int p3), (.int (0 : Int32)), (.ref b75), (.ref b75)])) _
        refine XS.iand X75.here hx rfl (hb hby at_54) rfl ?_
        show Steps p.tables e below (T75.setTop (mkF m 55 #[.val (.int p1), .val (.int p2), .val (.int p3), .val (.int p4), .val (.int (2 : Int32)), .val (.ref w_MERCHANT_ID), .val (.int (0 : Int32)), .val (.ref wS), .unset, .unset, .unset, .unset] [(.int (p3 &&& (255 : Int32))), (.int (0 : Int32)), (.ref b75), (.ref b75)])) _
        refine XS.i2c X75.here hx rfl (hb hby at_55) rfl ?_
        show Steps p.tables e below (T75.setTop (mkF m 56 #[.val (.int p1), .val (.int p2), .val (.int p3), .val (.int p4), .val (.int (2 : Int32)), .val (.ref w_MERCHANT_ID), .val (.int (0 : Int32)), .val (.ref wS), .unset, .unset, .unset, .unset] [(.int ((p3 &&& (255 : Int32)).toUInt32.toUInt16.toUInt32.toInt32)), (.int (0 : Int32)), (.ref b75), (.ref b75)])) _
        refine st76 _ ?_
        show Steps p.tables e below (T76.setTop (mkF m 57 #[.val (.int p1), .val (.int p2), .val (.int p3), .val (.int p4), .val (.int (2 : Int32)), .val (.ref w_MERCHANT_ID), .val (.int (0 : Int32)), .val (.ref wS), .unset, .unset, .unset, .unset] [(.ref b75)])) _
        refine XS.astore X76.here hx rfl (hb hby at_57) rfl rfl (l' := #[.val (.int p1), .val (.int p2), .val (.int p3), .val (.int p4), .val (.int (2 : Int32)), .val (.ref w_MERCHANT_ID), .val (.int (0 : Int32)), .val (.ref wS), .val (.ref b75), .unset, .unset, .unset]) rfl ?_
        show Steps p.tables e below (T76.setTop (mkF m 59 #[.val (.int p1), .val (.int p2), .val (.int p3), .val (.int p4), .val (.int (2 : Int32)), .val (.ref w_MERCHANT_ID), .val (.int (0 : Int32)), .val (.ref wS), .val (.ref b75), .unset, .unset, .unset] [])) _
        refine st77 _ ?_
        show Steps p.tables e below (T77.setTop (mkF m 62 #[.val (.int p1), .val (.int p2), .val (.int p3), .val (.int p4), .val (.int (2 : Int32)), .val (.ref w_MERCHANT_ID), .val (.int (0 : Int32)), .val (.ref wS), .val (.ref b75), .unset, .unset, .unset] [(.ref b77)])) _
        refine XS.dup X77.here hx rfl (hb hby at_62) rfl rfl ?_
        show Steps p.tables e below (T77.setTop (mkF m 63 #[.val (.int p1), .val (.int p2), .val (.int p3), .val (.int p4), .val (.int (2 : Int32)), .val (.ref w_MERCHANT_ID), .val (.int (0 : Int32)), .val (.ref wS), .val (.ref b75), .unset, .unset, .unset] [(.ref b77), (.ref b77)])) _
        refine XS.aload X77.here hx rfl (hb hby at_63) rfl rfl ?_
        show Steps p.tables e below (T77.setTop (mkF m 65 #[.val (.int p1), .val (.int p2), .val (.int p3), .val (.int p4), .val (.int (2 : Int32)), .val (.ref w_MERCHANT_ID), .val (.int (0 : Int32)), .val (.ref wS), .val (.ref b75), .unset, .unset, .unset] [(.ref wS), (.ref b77), (.ref b77)])) _
        refine st79 _ ?_
        show Steps p.tables e below (T79.setTop (mkF m 68 #[.val (.int p1), .val (.int p2), .val (.int p3), .val (.int p4), .val (.int (2 : Int32)), .val (.ref w_MERCHANT_ID), .val (.int (0 : Int32)), .val (.ref wS), .val (.ref b75), .unset, .unset, .unset] [(.ref b79), (.ref wS), (.ref b77), (.ref b77)])) _
        refine XS.dup X79.here hx rfl (hb hby at_68) rfl rfl ?_
        show Steps p.tables e below (T79.setTop (mkF m 69 #[.val (.int p1), .val (.int p2), .val (.int p3), .val (.int p4), .val (.int (2 : Int32)), .val (.ref w_MERCHANT_ID), .val (.int (0 : Int32)), .val (.ref wS), .val (.ref b75), .unset, .unset, .unset] [(.ref b79), (.ref b79), (.ref wS), (.ref b77), (.ref b77)])) _
        refine XS.aload X79.here hx rfl (hb hby at_69) rfl rfl ?_
        show Steps p.tables e below (T79.setTop (mkF m 71 #[.val (.int p1), .val (.int p2), .val (.int p3), .val (.int p4), .val (.int (2 : Int32)), .val (.ref w_MERCHANT_ID), .val (.int (0 : Int32)), .val (.ref wS), .val (.ref b75), .unset, .unset, .unset] [(.ref b75), (.ref b79), (.ref b79), (.ref wS), (.ref b77), (.ref b77)])) _
        refine st82.trans ?_
        show Steps p.tables e below (T82.setTop (mkF m 74 #[.val (.int p1), .val (.int p2), .val (.int p3), .val (.int p4), .val (.int (2 : Int32)), .val (.ref w_MERCHANT_ID), .val (.int (0 : Int32)), .val (.ref wS), .val (.ref b75), .unset, .unset, .unset] [(.ref b79), (.ref wS), (.ref b77), (.ref b77)])) _
        refine XS.iloadN X82.here hx rfl (hb hby at_74) rfl ?_
        show Steps p.tables e below (T82.setTop (mkF m 75 #[.val (.int p1), .val (.int p2), .val (.int p3), .val (.int p4), .val (.int (2 : Int32)), .val (.ref w_MERCHANT_ID), .val (.int (0 : Int32)), .val (.ref wS), .val (.ref b75), .unset, .unset, .unset] [(.int p4), (.ref b79), (.ref wS), (.ref b77), (.ref b77)])) _
        refine X82.ldcInt hx hown (mvT hZ (hw _ (List.mem_of_getElem? (i := 0) rfl))) (g := (mkF m 75 #[.val (.int p1), .val (.int p2), .val (.int p3), .val (.int p4), .val (.int (2 : Int32)), .val (.ref w_MERCHANT_ID), .val (.int (0 : Int32)), .val (.ref wS), .val (.ref b75), .unset, .unset, .unset] [(.int p4), (.ref b79), (.ref wS), (.ref b77), (.ref b77)])) rfl (hb hby at_75) _ ?_
        show Steps p.tables e below (T82.setTop (mkF m 77 #[.val (.int p1), .val (.int p2), .val (.int p3), .val (.int p4), .val (.int (2 : Int32)), .val (.ref w_MERCHANT_ID), .val (.int (0 : Int32)), .val (.ref wS), .val (.ref b75), .unset, .unset, .unset] [(.int (2147483647 : Int32)), (.int p4), (.ref b79), (.ref wS), (.ref b77), (.ref b77)])) _
        refine XS.iand X82.here hx rfl (hb hby at_77) rfl ?_
        show Steps p.tables e below (T82.setTop (mkF m 78 #[.val (.int p1), .val (.int p2), .val (.int p3), .val (.int p4), .val (.int (2 : Int32)), .val (.ref w_MERCHANT_ID), .val (.int (0 : Int32)), .val (.ref wS), .val (.ref b75), .unset, .unset, .unset] [(.int (p4 &&& (2147483647 : Int32))), (.ref b79), (.ref wS), (.ref b77), (.ref b77)])) _
        refine st87.trans ?_
        show Steps p.tables e below (T87.setTop (mkF m 81 #[.val (.int p1), .val (.int p2), .val (.int p3), .val (.int p4), .val (.int (2 : Int32)), .val (.ref w_MERCHANT_ID), .val (.int (0 : Int32)), .val (.ref wS), .val (.ref b75), .unset, .unset, .unset] [(.ref b77)])) _
        refine XS.astore X87'.here hx rfl (hb hby at_81) rfl rfl (l' := #[.val (.int p1), .val (.int p2), .val (.int p3), .val (.int p4), .val (.int (2 : Int32)), .val (.ref w_MERCHANT_ID), .val (.int (0 : Int32)), .val (.ref wS), .val (.ref b75), .val (.ref b77), .unset, .unset]) rfl ?_
        show Steps p.tables e below (T87.setTop (mkF m 83 #[.val (.int p1), .val (.int p2), .val (.int p3), .val (.int p4), .val (.int (2 : Int32)), .val (.ref w_MERCHANT_ID), .val (.int (0 : Int32)), .val (.ref wS), .val (.ref b75), .val (.ref b77), .unset, .unset] [])) _
        refine XS.iload X87'.here hx rfl (hb hby at_83) rfl ?_
        show Steps p.tables e below (T87.setTop (mkF m 85 #[.val (.int p1), .val (.int p2), .val (.int p3), .val (.int p4), .val (.int (2 : Int32)), .val (.ref w_MERCHANT_ID), .val (.int (0 : Int32)), .val (.ref wS), .val (.ref b75), .val (.ref b77), .unset, .unset] [(.int (2 : Int32))])) _
        refine XS.ifNo X87'.here hx rfl (hb hby at_85) rfl ((if0 _ _).trans (feq (by decide : ¬ ((2 : Int32) = (0 : Int32)))).1) ?_
        show Steps p.tables e below (T87.setTop (mkF m 88 #[.val (.int p1), .val (.int p2), .val (.int p3), .val (.int p4), .val (.int (2 : Int32)), .val (.ref w_MERCHANT_ID), .val (.int (0 : Int32)), .val (.ref wS), .val (.ref b75), .val (.ref b77), .unset, .unset] [])) _
        refine XS.iload X87'.here hx rfl (hb hby at_88) rfl ?_
        show Steps p.tables e below (T87.setTop (mkF m 90 #[.val (.int p1), .val (.int p2), .val (.int p3), .val (.int p4), .val (.int (2 : Int32)), .val (.ref w_MERCHANT_ID), .val (.int (0 : Int32)), .val (.ref wS), .val (.ref b75), .val (.ref b77), .unset, .unset] [(.int (2 : Int32))])) _
        refine XS.iconst X87'.here hx rfl (hb hby at_90) ?_
        show Steps p.tables e below (T87.setTop (mkF m 91 #[.val (.int p1), .val (.int p2), .val (.int p3), .val (.int p4), .val (.int (2 : Int32)), .val (.ref w_MERCHANT_ID), .val (.int (0 : Int32)), .val (.ref wS), .val (.ref b75), .val (.ref b77), .unset, .unset] [(.int (5 : Int32)), (.int (2 : Int32))])) _
        refine XS.icmpYes X87'.here hx rfl (pc0 := 91) (pc' := 98) rfl (hb hby at_91) rfl (feq (by decide : ¬ ((2 : Int32) = (5 : Int32)))).2 (by decide) (by decide) ?_
        show Steps p.tables e below (T87.setTop (mkF m 98 #[.val (.int p1), .val (.int p2), .val (.int p3), .val (.int p4), .val (.int (2 : Int32)), .val (.ref w_MERCHANT_ID), .val (.int (0 : Int32)), .val (.ref wS), .val (.ref b75), .val (.ref b77), .unset, .unset] [])) _
        refine XS.iconst X87'.here hx rfl (hb hby at_98) ?_
        show Steps p.tables e below (T87.setTop (mkF m 99 #[.val (.int p1), .val (.int p2), .val (.int p3), .val (.int p4), .val (.int (2 : Int32)), .val (.ref w_MERCHANT_ID), .val (.int (0 : Int32)), .val (.ref wS), .val (.ref b75), .val (.ref b77), .unset, .unset] [(.int (0 : Int32))])) _
        refine XS.istore X87'.here hx rfl (hb hby at_99) rfl (l' := #[.val (.int p1), .val (.int p2), .val (.int p3), .val (.int p4), .val (.int (2 : Int32)), .val (.ref w_MERCHANT_ID), .val (.int (0 : Int32)), .val (.ref wS), .val (.ref b75), .val (.ref b77), .val (.int (0 : Int32)), .unset]) rfl ?_
        show Steps p.tables e below (T87.setTop (mkF m 101 #[.val (.int p1), .val (.int p2), .val (.int p3), .val (.int p4), .val (.int (2 : Int32)), .val (.ref w_MERCHANT_ID), .val (.int (0 : Int32)), .val (.ref wS), .val (.ref b75), .val (.ref b77), .val (.int (0 : Int32)), .unset] [])) _
        refine XS.iload X87'.here hx rfl (hb hby at_101) rfl ?_
        show Steps p.tables e below (T87.setTop (mkF m 103 #[.val (.int p1), .val (.int p2), .val (.int p3), .val (.int p4), .val (.int (2 : Int32)), .val (.ref w_MERCHANT_ID), .val (.int (0 : Int32)), .val (.ref wS), .val (.ref b75), .val (.ref b77), .val (.int (0 : Int32)), .unset] [(.int (0 : Int32))])) _
        refine XS.iload X87'.here hx rfl (hb hby at_103) rfl ?_
        show Steps p.tables e below (T87.setTop (mkF m 105 #[.val (.int p1), .val (.int p2), .val (.int p3), .val (.int p4), .val (.int (2 : Int32)), .val (.ref w_MERCHANT_ID), .val (.int (0 : Int32)), .val (.ref wS), .val (.ref b75), .val (.ref b77), .val (.int (0 : Int32)), .unset] [(.int (0 : Int32)), (.int (0 : Int32))])) _
        refine XS.icmpNo X87'.here hx rfl (hb hby at_105) rfl (teq (rfl : (0 : Int32) = (0 : Int32))).2 ?_
        show Steps p.tables e below (T87.setTop (mkF m 108 #[.val (.int p1), .val (.int p2), .val (.int p3), .val (.int p4), .val (.int (2 : Int32)), .val (.ref w_MERCHANT_ID), .val (.int (0 : Int32)), .val (.ref wS), .val (.ref b75), .val (.ref b77), .val (.int (0 : Int32)), .unset] [])) _
        refine XS.iconst X87'.here hx rfl (hb hby at_108) ?_
        show Steps p.tables e below (T87.setTop (mkF m 109 #[.val (.int p1), .val (.int p2), .val (.int p3), .val (.int p4), .val (.int (2 : Int32)), .val (.ref w_MERCHANT_ID), .val (.int (0 : Int32)), .val (.ref wS), .val (.ref b75), .val (.ref b77), .val (.int (0 : Int32)), .unset] [(.int (1 : Int32))])) _
        refine XS.goto X87'.here hx rfl (pc0 := 109) (pc' := 113) rfl (hb hby at_109) (by decide) (by decide) ?_
        show Steps p.tables e below (T87.setTop (mkF m 113 #[.val (.int p1), .val (.int p2), .val (.int p3), .val (.int p4), .val (.int (2 : Int32)), .val (.ref w_MERCHANT_ID), .val (.int (0 : Int32)), .val (.ref wS), .val (.ref b75), .val (.ref b77), .val (.int (0 : Int32)), .unset] [(.int (1 : Int32))])) _
        refine XS.istore X87'.here hx rfl (hb hby at_113) rfl (l' := #[.val (.int p1), .val (.int p2), .val (.int p3), .val (.int p4), .val (.int (2 : Int32)), .val (.ref w_MERCHANT_ID), .val (.int (0 : Int32)), .val (.ref wS), .val (.ref b75), .val (.ref b77), .val (.int (0 : Int32)), .val (.int (1 : Int32))]) rfl ?_
        show Steps p.tables e below (T87.setTop (mkF m 115 #[.val (.int p1), .val (.int p2), .val (.int p3), .val (.int p4), .val (.int (2 : Int32)), .val (.ref w_MERCHANT_ID), .val (.int (0 : Int32)), .val (.ref wS), .val (.ref b75), .val (.ref b77), .val (.int (0 : Int32)), .val (.int (1 : Int32))] [])) _
        refine XS.aload X87'.here hx rfl (hb hby at_115) rfl rfl ?_
        show Steps p.tables e below (T87.setTop (mkF m 117 #[.val (.int p1), .val (.int p2), .val (.int p3), .val (.int p4), .val (.int (2 : Int32)), .val (.ref w_MERCHANT_ID), .val (.int (0 : Int32)), .val (.ref wS), .val (.ref b75), .val (.ref b77), .val (.int (0 : Int32)), .val (.int (1 : Int32))] [(.ref w_MERCHANT_ID)])) _
        refine XS.aload X87'.here hx rfl (hb hby at_117) rfl rfl ?_
        show Steps p.tables e below (T87.setTop (mkF m 119 #[.val (.int p1), .val (.int p2), .val (.int p3), .val (.int p4), .val (.int (2 : Int32)), .val (.ref w_MERCHANT_ID), .val (.int (0 : Int32)), .val (.ref wS), .val (.ref b75), .val (.ref b77), .val (.int (0 : Int32)), .val (.int (1 : Int32))] [(.ref b77), (.ref w_MERCHANT_ID)])) _
        refine st88.trans ?_
        show Steps p.tables e below (T88.setTop (mkF m 122 #[.val (.int p1), .val (.int p2), .val (.int p3), .val (.int p4), .val (.int (2 : Int32)), .val (.ref w_MERCHANT_ID), .val (.int (0 : Int32)), .val (.ref wS), .val (.ref b75), .val (.ref b77), .val (.int (0 : Int32)), .val (.int (1 : Int32))] [(.int (1 : Int32))])) _
        refine XS.iload X88.here hx rfl (hb hby at_122) rfl ?_
        show Steps p.tables e below (T88.setTop (mkF m 124 #[.val (.int p1), .val (.int p2), .val (.int p3), .val (.int p4), .val (.int (2 : Int32)), .val (.ref w_MERCHANT_ID), .val (.int (0 : Int32)), .val (.ref wS), .val (.ref b75), .val (.ref b77), .val (.int (0 : Int32)), .val (.int (1 : Int32))] [(.int (1 : Int32)), (.int (1 : Int32))])) _
        refine XS.icmpNo X88.here hx rfl (hb hby at_124) rfl (teq (rfl : (1 : Int32) = (1 : Int32))).2 ?_
        show Steps p.tables e below (T88.setTop (mkF m 127 #[.val (.int p1), .val (.int p2), .val (.int p3), .val (.int p4), .val (.int (2 : Int32)), .val (.ref w_MERCHANT_ID), .val (.int (0 : Int32)), .val (.ref wS), .val (.ref b75), .val (.ref b77), .val (.int (0 : Int32)), .val (.int (1 : Int32))] [])) _
        refine XS.iconst X88.here hx rfl (hb hby at_127) ?_
        show Steps p.tables e below (T88.setTop (mkF m 128 #[.val (.int p1), .val (.int p2), .val (.int p3), .val (.int p4), .val (.int (2 : Int32)), .val (.ref w_MERCHANT_ID), .val (.int (0 : Int32)), .val (.ref wS), .val (.ref b75), .val (.ref b77), .val (.int (0 : Int32)), .val (.int (1 : Int32))] [(.int (1 : Int32))])) _
        refine XS.goto X88.here hx rfl (pc0 := 128) (pc' := 132) rfl (hb hby at_128) (by decide) (by decide) ?_
        show Steps p.tables e below (T88.setTop (mkF m 132 #[.val (.int p1), .val (.int p2), .val (.int p3), .val (.int p4), .val (.int (2 : Int32)), .val (.ref w_MERCHANT_ID), .val (.int (0 : Int32)), .val (.ref wS), .val (.ref b75), .val (.ref b77), .val (.int (0 : Int32)), .val (.int (1 : Int32))] [(.int (1 : Int32))])) _
        exact retN X88 hx (t := .boolean) Bd.returns (by simp) (hb hby at_132) hr
      · show Q_rm0 Z p1 p2 p3 p4 w_AMOUNT w_CURRENCY w_MERCHANT_ID w_IP_ADDRESS w_DEVICE_ID w_USER_AGE w_USER_REGION wN wS zc h0 n0 _ T88.heap _
        rw [e88]
        exact ⟨rfl, N88⟩
    · obtain ⟨T89, X89, e89, st89⟩ := getS2 X71 hx hZ hown (host := "") (Or.inl (hw _ (List.mem_of_getElem? (i := 8) rfl))) Via.refl e71 S_NUMBER (g := (mkF m 34 #[.val (.int p1), .val (.int p2), .val (.int p3), .val (.int p4), .val (.int (2 : Int32)), .val (.ref w_MERCHANT_ID), .val (.int (1 : Int32)), .unset, .unset, .unset, .unset, .unset] [])) rfl (hb hby at_34)
      obtain ⟨T90, h90, k90, X90, e90, E90, A90, st90⟩ := newP X89 hx hZ (hw _ (List.mem_of_getElem? (i := 11) rfl)) e89 (g := (mkF m 46 #[.val (.int p1), .val (.int p2), .val (.int p3), .val (.int p4), .val (.int (2 : Int32)), .val (.ref w_MERCHANT_ID), .val (.int (1 : Int32)), .val (.ref wN), .unset, .unset, .unset, .unset] [(.int (1 : Int32))])) rfl (hb hby at_46) rfl (by decide) (cap := 1) (by decide) (by decide) (by decide) (by decide)
      obtain ⟨b90, g90⟩ : ∃ z, z = h0.size := ⟨_, rfl⟩
      rw [← g90] at A90 st90
      have V_b90 : Arv Z h90 b90 k90 .char (1 : Int32) [(.int (0 : Int32))] (.int (0 : Int32)) := (Arv.new A90 (by decide)).pad (pad_rep [] (.int (0 : Int32)) 1)
      have g_b90 : n0 ≤ b90 := Nat.le_trans Z0 (Nat.le_of_eq g90.symm)
      have sz_b90 : h0.size ≤ b90 := Nat.le_trans ((Keep.refl h0 [])).1 (Nat.le_of_eq g90.symm)
      have K90 : Keep h0 h90 [] := ((Keep.refl h0 [])).ext E90
      obtain ⟨cl91, Ar91, q91, S91, N91_, H91, G91⟩ := id V_b90
      obtain ⟨T91, h91, X91, e91, W91, st91⟩ := stC X90 hx hZ e90 Ar91 (j := (0 : Int32)) (inb_of S91 ⟨by decide, by decide⟩) (g := (mkF m 56 #[.val (.int p1), .val (.int p2), .val (.int p3), .val (.int p4), .val (.int (2 : Int32)), .val (.ref w_MERCHANT_ID), .val (.int (1 : Int32)), .val (.ref wN), .unset, .unset, .unset, .unset] [(.int ((p3 &&& (255 : Int32)).toUInt32.toUInt16.toUInt32.toInt32)), (.int (0 : Int32)), (.ref b90), (.ref b90)])) rfl rfl (hb hby at_56)
      have V91 := Arv.set Ar91 q91 S91 N91_ H91 G91 (fits_nar_char _) W91 0 rfl (Nat.le_of_ble_eq_true rfl)
      have K91 : Keep h0 h91 [] := (K90).wr W91 (Or.inr sz_b90)
      have N91 := Fr.snoc X91 N71 g_b90
      obtain ⟨T92, h92, X92, e92, E92, A92, D92, -, st92⟩ := newO X91 hx hZ hown (hw _ (List.mem_of_getElem? (i := 12) rfl)) (hw _ (List.mem_of_getElem? (i := 13) rfl)) (hw _ (List.mem_of_getElem? (i := 14) rfl)) e91 (g := (mkF m 59 #[.val (.int p1), .val (.int p2), .val (.int p3), .val (.int p4), .val (.int (2 : Int32)), .val (.ref w_MERCHANT_ID), .val (.int (1 : Int32)), .val (.ref wN), .val (.ref b90), .unset, .unset, .unset] [])) rfl (hb hby at_59) (by decide) (by decide)
      obtain ⟨b92, g92⟩ : ∃ z, z = h91.size := ⟨_, rfl⟩
      rw [← g92] at A92 D92 st92
      have ne_b90_b92 : b90 ≠ b92 := Nat.ne_of_lt (Nat.lt_of_lt_of_le V91.lt (Nat.le_of_eq g92.symm))
      have g_b92 : n0 ≤ b92 := Nat.le_trans (Nat.le_trans Z0 K91.1) (Nat.le_of_eq g92.symm)
      have sz_b92 : h0.size ≤ b92 := Nat.le_trans (K91).1 (Nat.le_of_eq g92.symm)
      have K92 : Keep h0 h92 [] := (K91).ext E92
      have F92_kind : Fld Z h92 b92 "com/example/riscontro/riscontro/rules/Token" "kind" "Lcom/example/riscontro/riscontro/rules/Token$Kind;" .null := D92 (Or.inr (hw _ (List.mem_of_getElem? (i := 62) rfl))) (ty := (.object "com/example/riscontro/riscontro/rules/Token$Kind")) (by decide)
      have F92_text : Fld Z h92 b92 "com/example/riscontro/riscontro/rules/Token" "text" "Ljava/lang/String;" .null := D92 (Or.inr (hw _ (List.mem_of_getElem? (i := 64) rfl))) (ty := (.object "java/lang/String")) (by decide)
      have F92_start : Fld Z h92 b92 "com/example/riscontro/riscontro/rules/Token" "start" "I" (.int (0 : Int32)) := D92 (Or.inr (hw _ (List.mem_of_getElem? (i := 66) rfl))) (ty := .int) (by decide)
      have f93 := (V91.ext E92)
      obtain ⟨T94, h94, X94, e94, E94, A94, D94, -, st94⟩ := newO X92 hx hZ hown (hw _ (List.mem_of_getElem? (i := 15) rfl)) (hw _ (List.mem_of_getElem? (i := 16) rfl)) (hw _ (List.mem_of_getElem? (i := 17) rfl)) e92 (g := (mkF m 65 #[.val (.int p1), .val (.int p2), .val (.int p3), .val (.int p4), .val (.int (2 : Int32)), .val (.ref w_MERCHANT_ID), .val (.int (1 : Int32)), .val (.ref wN), .val (.ref b90), .unset, .unset, .unset] [(.ref wN), (.ref b92), (.ref b92)])) rfl (hb hby at_65) (by decide) (by decide)
      obtain ⟨b94, g94⟩ : ∃ z, z = h92.size := ⟨_, rfl⟩
      rw [← g94] at A94 D94 st94
      have ne_b90_b94 : b90 ≠ b94 := Nat.ne_of_lt (Nat.lt_of_lt_of_le f93.lt (Nat.le_of_eq g94.symm))
      have ne_b92_b94 : b92 ≠ b94 := Nat.ne_of_lt (Nat.lt_of_lt_of_le A92.lt (Nat.le_of_eq g94.symm))
      have g_b94 : n0 ≤ b94 := Nat.le_trans (Nat.le_trans Z0 K92.1) (Nat.le_of_eq g94.symm)
      have sz_b94 : h0.size ≤ b94 := Nat.le_trans (K92).1 (Nat.le_of_eq g94.symm)
      have K94 : Keep h0 h94 [] := (K92).ext E94
      have F94_coder : Fld Z h94 b94 "java/lang/String" "coder" "B" (.int (0 : Int32)) := D94 (Or.inr (hw _ (List.mem_of_getElem? (i := 41) rfl))) (ty := .byte) (by decide)
      have F94_value : Fld Z h94 b94 "java/lang/String" "value" "[B" .null := D94 (Or.inr (hw _ (List.mem_of_getElem? (i := 43) rfl))) (ty := (.array .byte)) (by decide)
      have f95 := (f93.ext E94)
      have V96 : Arv Z h94 b90 _ .char (1 : Int32) (([nar .char ((p3 &&& (255 : Int32)).toUInt32.toUInt16.toUInt32.toInt32)] : List Int32).map Value.int) (.int (0 : Int32)) := f95
      have hws : ∀ d ∈ StrChars.Road.words, d.before a0 Z = true := fun d hd => hw d ((by decide +kernel : ∀ d ∈ StrChars.Road.words, d ∈ tables_1) d hd)
      obtain ⟨_, _, ⟨T97, L97, k97, n97⟩, -, X97, ⟨Lc97, hQ97, l97, y97, z97⟩, st97⟩ := X94.specialBack hx (y := (⟨"java/lang/String", "<init>", "([C)V"⟩ : MethodName)) rfl hown (mvT hZ (hw _ (List.mem_of_getElem? (i := 18) rfl))) (mvT hZ (hw _ (List.mem_of_getElem? (i := 19) rfl))) (mvT hZ (hw _ (List.mem_of_getElem? (i := 20) rfl))) (by decide) (StrChars.Road.backV (W := 4) hZ hws (kI := 4) (hw _ (List.mem_of_getElem? (i := 16) rfl)) (cs := [nar .char ((p3 &&& (255 : Int32)).toUInt32.toUInt16.toUInt32.toInt32)]) (bs := ([nar .char ((p3 &&& (255 : Int32)).toUInt32.toUInt16.toUInt32.toInt32)] : List Int32).map (fun c => c.toInt8.toInt32)) (n := 1) g_b94 (Nat.le_trans Z0 K94.1) A94 F94_value F94_coder V96 (Sta.ext (own_keep_ext K94) S_C) hzc rfl rfl (by decide) (by decide) (own_chrb p3) rfl (by decide) (by decide)) (g := (mkF m 71 #[.val (.int p1), .val (.int p2), .val (.int p3), .val (.int p4), .val (.int (2 : Int32)), .val (.ref w_MERCHANT_ID), .val (.int (1 : Int32)), .val (.ref wN), .val (.ref b90), .unset, .unset, .unset] [(.ref b90), (.ref b94), (.ref b94), (.ref wN), (.ref b92), (.ref b92)])) rfl (by rw [hml]; rfl) (Steps.refl _) (a := b94) (argsL := [(.ref b90)]) (rest := [(.ref b94), (.ref wN), (.ref b92), (.ref b92)]) (lenOf pd_rm0_1 rfl) rfl (by show 2 * 0 + _ ≤ _; exact Nat.le_of_eq rfl) (hb hby at_71) (fun _ _ => ⟨rfl, e94, (by decide : 3 + 1 ≤ _), (by decide : 8 + 1 ≤ _)⟩)
      dsimp only [Pt.U, Pt.locs, Pt.cells, Pt.slots] at X97 l97 y97 z97 st97 hQ97
      subst l97 y97 z97
      obtain ⟨rfl, N97q, K97q, A97q, C97q, t97, k97, g971, g972, g973, F97q, B97q⟩ := hQ97
      have N97 := Fr.app N91 N97q
      have K97 : Keep h0 T97.heap [] := (K94).trans K97q (allS (Or.inr sz_b94) all0)
      have f98 := ((Exa.ext E94 A92).keep K97q)
      have f99 := ((Fld.ext E94 F92_kind).keep K97q (ninS ne_b92_b94 nin0))
      have f100 := ((Fld.ext E94 F92_text).keep K97q (ninS ne_b92_b94 nin0))
      have f101 := ((Fld.ext E94 F92_start).keep K97q (ninS ne_b92_b94 nin0))
      obtain ⟨_, _, ⟨T102, L102, k102, n102⟩, -, X102, hS2_102, hg_102, ⟨Lc102, hQ102, l102, y102, z102⟩, st102⟩ := X97.specialBackS hx (y := (⟨"com/example/riscontro/riscontro/rules/Token", "<init>", "(Lcom/example/riscontro/riscontro/rules/Token$Kind;Ljava/lang/String;I)V"⟩ : MethodName)) rfl hown (mvT hZ (hw _ (List.mem_of_getElem? (i := 44) rfl))) (mvT hZ (hw _ (List.mem_of_getElem? (i := 45) rfl))) (mvT hZ (hw _ (List.mem_of_getElem? (i := 46) rfl))) (by decide) (backOfS (W := 1) (rmT l Z a0 hw [] b92 wN b94 (p4 &&& (2147483647 : Int32)) T97.heap n0 (Nat.le_trans Z0 K97.1) f98 f99 f100 f101 g_b92 (own_start p4)) hZ (hw _ (List.mem_of_getElem? (i := 46) rfl)) (hw _ (List.mem_of_getElem? (i := 14) rfl)) (by decide) (by decide)) (g := (mkF m 78 #[.val (.int p1), .val (.int p2), .val (.int p3), .val (.int p4), .val (.int (2 : Int32)), .val (.ref w_MERCHANT_ID), .val (.int (1 : Int32)), .val (.ref wN), .val (.ref b90), .unset, .unset, .unset] [(.int (p4 &&& (2147483647 : Int32))), (.ref b94), (.ref wN), (.ref b92), (.ref b92)])) rfl (by rw [hml]; rfl) (Steps.refl _) (a := b92) (argsL := [(.ref wN), (.ref b94), (.int (p4 &&& (2147483647 : Int32)))]) (rest := [(.ref b92)]) (lenOf pd_rm0_2 rfl) rfl (by show 2 * 0 + _ ≤ _; exact Nat.le_of_eq rfl) (hb hby at_78) (fun _ _ => ⟨rfl, rfl, (by decide : 4 + 4 ≤ _), (by decide : 9 + 40 ≤ _)⟩)
      dsimp only [Pt.U, Pt.locs, Pt.cells, Pt.slots] at X102 l102 y102 z102 st102 hQ102
      subst l102 y102 z102
      obtain ⟨X102', hS102', hZ102', hown102'⟩ := rebS (s := s) (vm0 := s.vm) hS0 (show _ ≤ T97.heap.size by exact (Nat.le_trans (Nat.le_trans (Nat.le_trans (Nat.le_trans (Nat.le_trans (Nat.zero_le _) (E90).1) (Keep.of_wr W91).1) (E92).1) (E94).1) (K97q).1)) X102 hS2_102 hg_102 hZ hown
      obtain ⟨rfl, N102q, K102q, A102q, G102q⟩ := hQ102
      have N102 := Fr.app N97 N102q
      have K102 : Keep h0 T102.heap [] := (K97).trans K102q (allS (Or.inr sz_b92) all0)
      obtain ⟨cq103, kq103, q103a, q103b, q103c⟩ := isOf hZ102' rfl (Exa.ext (own_keep_ext K102) E_MERCHANT_ID)
      obtain ⟨_, _, ⟨T103, L103, k103, n103⟩, -, X103, ⟨Lc103, hQ103, l103, y103, z103⟩, st103⟩ := X102'.virtualBack hx (y := (⟨"com/example/riscontro/riscontro/rules/Field", "takes", "(Lcom/example/riscontro/riscontro/rules/Token;)Z"⟩ : MethodName)) (z := (⟨"com/example/riscontro/riscontro/rules/Field", "takes", "(Lcom/example/riscontro/riscontro/rules/Token;)Z"⟩ : MethodName)) hown102' (mvT hZ102' (hw _ (List.mem_of_getElem? (i := 67) rfl))) (mvT hZ102' (hw _ (List.mem_of_getElem? (i := 68) rfl))) (notFace_of_selects (args := #[]) (mvT hZ102' (hw _ (List.mem_of_getElem? (i := 70) rfl)))) (mvT hZ102' (hw _ (List.mem_of_getElem? (i := 70) rfl))) (mvT hZ102' (hw _ (List.mem_of_getElem? (i := 69) rfl))) (by decide) (backOf (W := 0) (rmX l Z a0 hw [] w_MERCHANT_ID b92 wS wN (0 : Int32) T102.heap n0 (Nat.le_trans Z0 K102.1) (Fld.ext (own_keep_ext K102) V_MERCHANT_ID) G102q A102q (if_neg hNS)) hZ102' (hw _ (List.mem_of_getElem? (i := 71) rfl)) (hw _ (List.mem_of_getElem? (i := 6) rfl)) (by decide) (by decide)) q103a q103c (g := (mkF m 119 #[.val (.int p1), .val (.int p2), .val (.int p3), .val (.int p4), .val (.int (2 : Int32)), .val (.ref w_MERCHANT_ID), .val (.int (1 : Int32)), .val (.ref wN), .val (.ref b90), .val (.ref b92), .val (.int (0 : Int32)), .val (.int (0 : Int32))] [(.ref b92), (.ref w_MERCHANT_ID)])) rfl (by rw [hml]; rfl) (Steps.refl _) (argsL := [(.ref b92)]) (rest := []) (lenOf pd_rm0_3 rfl) rfl (by show 2 * 0 + _ ≤ _; exact Nat.le_of_eq rfl) (hb hby at_119) (fun _ _ => ⟨rfl, rfl, (by decide : 8 + 0 ≤ _), (by decide : 49 + 0 ≤ _)⟩)
      dsimp only [Pt.U, Pt.locs, Pt.cells, Pt.slots] at X103 l103 y103 z103 st103 hQ103
      subst l103 y103 z103
      obtain ⟨rfl, N103q, e103⟩ := hQ103
      have N103 := Fr.app N102 N103q
      obtain ⟨fs, hr, hrun, hended, hRW⟩ := Jvm.Stand.leaveW (s := s) (vm₁ := T102.vm) X103 hS102' (show _ ≤ T103.heap.size by rw [e103]; exact (Nat.le_refl T102.heap.size)) (v := some (.int (1 : Int32))) (fun h => by rw [Bd.returns] at h; cases h)
      refine ⟨_, _, pre72 _ ?_, hrun, hended, _, _, rfl, ?_, hRW.1, hRW.2.1, hRW.2.2.1, hRW.2.2.2.mono (by decide) (by decide)⟩
      · show Steps p.tables e below (T71.setTop (mkF m 19 #[.val (.int p1), .val (.int p2), .val (.int p3), .val (.int p4), .val (.int (2 : Int32)), .val (.ref w_MERCHANT_ID), .unset, .unset, .unset, .unset, .unset, .unset] [(.int (p2 &&& (1 : Int32)))])) _
        refine XS.ifNo X71.here hx rfl (hb hby at_19) rfl ((if0 _ _).trans (feq hc73).1) ?_
        show Steps p.tables e below (T71.setTop (mkF m 22 #[.val (.int p1), .val (.int p2), .val (.int p3), .val (.int p4), .val (.int (2 : Int32)), .val (.ref w_MERCHANT_ID), .unset, .unset, .unset, .unset, .unset, .unset] [])) _
        refine XS.iconst X71.here hx rfl (hb hby at_22) ?_
        show Steps p.tables e below (T71.setTop (mkF m 23 #[.val (.int p1), .val (.int p2), .val (.int p3), .val (.int p4), .val (.int (2 : Int32)), .val (.ref w_MERCHANT_ID), .unset, .unset, .unset, .unset, .unset, .unset] [(.int (1 : Int32))])) _
        refine XS.goto X71.here hx rfl (pc0 := 23) (pc' := 27) rfl (hb hby at_23) (by decide) (by decide) ?_
        show Steps p.tables e below (T71.setTop (mkF m 27 #[.val (.int p1), .val (.int p2), .val (.int p3), .val (.int p4), .val (.int (2 : Int32)), .val (.ref w_MERCHANT_ID), .unset, .unset, .unset, .unset, .unset, .unset] [(.int (1 : Int32))])) _
        refine XS.istore X71.here hx rfl (hb hby at_27) rfl (l' := #[.val (.int p1), .val (.int p2), .val (.int p3), .val (.int p4), .val (.int (2 : Int32)), .val (.ref w_MERCHANT_ID), .val (.int (1 : Int32)), .unset, .unset, .unset, .unset, .unset]) rfl ?_
        show Steps p.tables e below (T71.setTop (mkF m 29 #[.val (.int p1), .val (.int p2), .val (.int p3), .val (.int p4), .val (.int (2 : Int32)), .val (.ref w_MERCHANT_ID), .val (.int (1 : Int32)), .unset, .unset, .unset, .unset, .unset] [])) _
        refine XS.iload X71.here hx rfl (hb hby at_29) rfl ?_
        show Steps p.tables e below (T71.setTop (mkF m 31 #[.val (.int p1), .val (.int p2), .val (.int p3), .val (.int p4), .val (.int (2 : Int32)), .val (.ref w_MERCHANT_ID), .val (.int (1 : Int32)), .unset, .unset, .unset, .unset, .unset] [(.int (1 : Int32))])) _
        refine XS.ifNo X71.here hx rfl (hb hby at_31) rfl ((if0 _ _).trans (feq (by decide : ¬ ((1 : Int32) = (0 : Int32)))).1) ?_
        show Steps p.tables e below (T71.setTop (mkF m 34 #[.val (.int p1), .val (.int p2), .val (.int p3), .val (.int p4), .val (.int (2 : Int32)), .val (.ref w_MERCHANT_ID), .val (.int (1 : Int32)), .unset, .unset, .unset, .unset, .unset] [])) _
        refine st89 _ ?_
        show Steps p.tables e below (T89.setTop (mkF m 37 #[.val (.int p1), .val (.int p2), .val (.int p3), .val (.int p4), .val (.int (2 : Int32)), .val (.ref w_MERCHANT_ID), .val (.int (1 : Int32)), .unset, .unset, .unset, .unset, .unset] [(.ref wN)])) _
        refine XS.goto X89.here hx rfl (pc0 := 37) (pc' := 43) rfl (hb hby at_37) (by decide) (by decide) ?_
        show Steps p.tables e below (T89.setTop (mkF m 43 #[.val (.int p1), .val (.int p2), .val (.int p3), .val (.int p4), .val (.int (2 : Int32)), .val (.ref w_MERCHANT_ID), .val (.int (1 : Int32)), .unset, .unset, .unset, .unset, .unset] [(.ref wN)])) _
        refine XS.astore X89.here hx rfl (hb hby at_43) rfl rfl (l' := #[.val (.int p1), .val (.int p2), .val (.int p3), .val (.int p4), .val (.int (2 : Int32)), .val (.ref w_MERCHANT_ID), .val (.int (1 : Int32)), .val (.ref wN), .unset, .unset, .unset, .unset]) rfl ?_
        show Steps p.tables e below (T89.setTop (mkF m 45 #[.val (.int p1), .val (.int p2), .val (.int p3), .val (.int p4), .val (.int (2 : Int32)), .val (.ref w_MERCHANT_ID), .val (.int (1 : Int32)), .val (.ref wN), .unset, .unset, .unset, .unset] [])) _
        refine XS.iconst X89.here hx rfl (hb hby at_45) ?_
        show Steps p.tables e below (T89.setTop (mkF m 46 #[.val (.int p1), .val (.int p2), .val (.int p3), .val (.int p4), .val (.int (2 : Int32)), .val (.ref w_MERCHANT_ID), .val (.int (1 : Int32)), .val (.ref wN), .unset, .unset, .unset, .unset] [(.int (1 : Int32))])) _
        refine st90 _ ?_
        show Steps p.tables e below (T90.setTop (mkF m 48 #[.val (.int p1), .val (.int p2), .val (.int p3), .val (.int p4), .val (.int (2 : Int32)), .val (.ref w_MERCHANT_ID), .val (.int (1 : Int32)), .val (.ref wN), .unset, .unset, .unset, .unset] [(.ref b90)])) _
        refine XS.dup X90.here hx rfl (hb hby at_48) rfl rfl ?_
        show Steps p.tables e below (T90.setTop (mkF m 49 #[.val (.int p1), .val (.int p2), .val (.int p3), .val (.int p4), .val (.int (2 : Int32)), .val (.ref w_MERCHANT_ID), .val (.int (1 : Int32)), .val (.ref wN), .unset, .unset, .unset, .unset] [(.ref b90), (.ref b90)])) _
        refine XS.iconst X90.here hx rfl (hb hby at_49) ?_
        show Steps p.tables e below (T90.setTop (mkF m 50 #[.val (.int p1), .val (.int p2), .val (.int p3), .val (.int p4), .val (.int (2 : Int32)), .val (.ref w_MERCHANT_ID), .val (.int (1 : Int32)), .val (.ref wN), .unset, .unset, .unset, .unset] [(.int (0 : Int32)), (.ref b90), (.ref b90)])) _
        refine XS.iloadN X90.here hx rfl (hb hby at_50) rfl ?_
        show Steps p.tables e below (T90.setTop (mkF m 51 #[.val (.int p1), .val (.int p2), .val (.int p3), .val (.int p4), .val (.int (2 : Int32)), .val (.ref w_MERCHANT_ID), .val (.int (1 : Int32)), .val (.ref wN), .unset, .unset, .unset, .unset] [(.int p3), (.int (0 : Int32)), (.ref b90), (.ref b90)])) _
        refine XS.sipush X90.here hx rfl (hb hby at_51) ?_
        show Steps p.tables e below (T90.setTop (mkF m 54 #[.val (.int p1), .val (.int p2), .val (.int p3), .val (.int p4), .val (.int (2 : Int32)), .val (.ref w_MERCHANT_ID), .val (.int (1 : Int32)), .val (.ref wN), .unset, .unset, .unset, .unset] [(.int (255 : Int32)), (.int p3), (.int (0 : Int32)), (.ref b90), (.ref b90)])) _
        refine XS.iand X90.here hx rfl (hb hby at_54) rfl ?_
        show Steps p.tables e below (T90.setTop (mkF m 55 #[.val (.int p1), .val (.int p2), .val (.int p3), .val (.int p4), .val (.int (2 : Int32)), .val (.ref w_MERCHANT_ID), .val (.int (1 : Int32)), .val (.ref wN), .unset, .unset, .unset, .unset] [(.int (p3 &&& (255 : Int32))), (.int (0 : Int32)), (.ref b90), (.ref b90)])) _
        refine XS.i2c X90.here hx rfl (hb hby at_55) rfl ?_
        show Steps p.tables e below (T90.setTop (mkF m 56 #[.val (.int p1), .val (.int p2), .val (.int p3), .val (.int p4), .val (.int (2 : Int32)), .val (.ref w_MERCHANT_ID), .val (.int (1 : Int32)), .val (.ref wN), .unset, .unset, .unset, .unset] [(.int ((p3 &&& (255 : Int32)).toUInt32.toUInt16.toUInt32.toInt32)), (.int (0 : Int32)), (.ref b90), (.ref b90)])) _
        refine st91 _ ?_
        show Steps p.tables e below (T91.setTop (mkF m 57 #[.val (.int p1), .val (.int p2), .val (.int p3), .val (.int p4), .val (.int (2 : Int32)), .val (.ref w_MERCHANT_ID), .val (.int (1 : Int32)), .val (.ref wN), .unset, .unset, .unset, .unset] [(.ref b90)])) _
        refine XS.astore X91.here hx rfl (hb hby at_57) rfl rfl (l' := #[.val (.int p1), .val (.int p2), .val (.int p3), .val (.int p4), .val (.int (2 : Int32)), .val (.ref w_MERCHANT_ID), .val (.int (1 : Int32)), .val (.ref wN), .val (.ref b90), .unset, .unset, .unset]) rfl ?_
        show Steps p.tables e below (T91.setTop (mkF m 59 #[.val (.int p1), .val (.int p2), .val (.int p3), .val (.int p4), .val (.int (2 : Int32)), .val (.ref w_MERCHANT_ID), .val (.int (1 : Int32)), .val (.ref wN), .val (.ref b90), .unset, .unset, .unset] [])) _
        refine st92 _ ?_
        show Steps p.tables e below (T92.setTop (mkF m 62 #[.val (.int p1), .val (.int p2), .val (.int p3), .val (.int p4), .val (.int (2 : Int32)), .val (.ref w_MERCHANT_ID), .val (.int (1 : Int32)), .val (.ref wN), .val (.ref b90), .unset, .unset, .unset] [(.ref b92)])) _
        refine XS.dup X92.here hx rfl (hb hby at_62) rfl rfl ?_
        show Steps p.tables e below (T92.setTop (mkF m 63 #[.val (.int p1), .val (.int p2), .val (.int p3), .val (.int p4), .val (.int (2 : Int32)), .val (.ref w_MERCHANT_ID), .val (.int (1 : Int32)), .val (.ref wN), .val (.ref b90), .unset, .unset, .unset] [(.ref b92), (.ref b92)])) _
        refine XS.aload X92.here hx rfl (hb hby at_63) rfl rfl ?_
        show Steps p.tables e below (T92.setTop (mkF m 65 #[.val (.int p1), .val (.int p2), .val (.int p3), .val (.int p4), .val (.int (2 : Int32)), .val (.ref w_MERCHANT_ID), .val (.int (1 : Int32)), .val (.ref wN), .val (.ref b90), .unset, .unset, .unset] [(.ref wN), (.ref b92), (.ref b92)])) _
        refine st94 _ ?_
        show Steps p.tables e below (T94.setTop (mkF m 68 #[.val (.int p1), .val (.int p2), .val (.int p3), .val (.int p4), .val (.int (2 : Int32)), .val (.ref w_MERCHANT_ID), .val (.int (1 : Int32)), .val (.ref wN), .val (.ref b90), .unset, .unset, .unset] [(.ref b94), (.ref wN), (.ref b92), (.ref b92)])) _
        refine XS.dup X94.here hx rfl (hb hby at_68) rfl rfl ?_
        show Steps p.tables e below (T94.setTop (mkF m 69 #[.val (.int p1), .val (.int p2), .val (.int p3), .val (.int p4), .val (.int (2 : Int32)), .val (.ref w_MERCHANT_ID), .val (.int (1 : Int32)), .val (.ref wN), .val (.ref b90), .unset, .unset, .unset] [(.ref b94), (.ref b94), (.ref wN), (.ref b92), (.ref b92)])) _
        refine XS.aload X94.here hx rfl (hb hby at_69) rfl rfl ?_
        show Steps p.tables e below (T94.setTop (mkF m 71 #[.val (.int p1), .val (.int p2), .val (.int p3), .val (.int p4), .val (.int (2 : Int32)), .val (.ref w_MERCHANT_ID), .val (.int (1 : Int32)), .val (.ref wN), .val (.ref b90), .unset, .unset, .unset] [(.ref b90), (.ref b94), (.ref b94), (.ref wN), (.ref b92), (.ref b92)])) _
        refine st97.trans ?_
        show Steps p.tables e below (T97.setTop (mkF m 74 #[.val (.int p1), .val (.int p2), .val (.int p3), .val (.int p4), .val (.int (2 : Int32)), .val (.ref w_MERCHANT_ID), .val (.int (1 : Int32)), .val (.ref wN), .val (.ref b90), .unset, .unset, .unset] [(.ref b94), (.ref wN), (.ref b92), (.ref b92)])) _
        refine XS.iloadN X97.here hx rfl (hb hby at_74) rfl ?_
        show Steps p.tables e below (T97.setTop (mkF m 75 #[.val (.int p1), .val (.int p2), .val (.int p3), .val (.int p4), .val (.int (2 : Int32)), .val (.ref w_MERCHANT_ID), .val (.int (1 : Int32)), .val (.ref wN), .val (.ref b90), .unset, .unset, .unset] [(.int p4), (.ref b94), (.ref wN), (.ref b92), (.ref b92)])) _
        refine X97.ldcInt hx hown (mvT hZ (hw _ (List.mem_of_getElem? (i := 0) rfl))) (g := (mkF m 75 #[.val (.int p1), .val (.int p2), .val (.int p3), .val (.int p4), .val (.int (2 : Int32)), .val (.ref w_MERCHANT_ID), .val (.int (1 : Int32)), .val (.ref wN), .val (.ref b90), .unset, .unset, .unset] [(.int p4), (.ref b94), (.ref wN), (.ref b92), (.ref b92)])) rfl (hb hby at_75) _ ?_
        show Steps p.tables e below (T97.setTop (mkF m 77 #[.val (.int p1), .val (.int p2), .val (.int p3), .val (.int p4), .val (.int (2 : Int32)), .val (.ref w_MERCHANT_ID), .val (.int (1 : Int32)), .val (.ref wN), .val (.ref b90), .unset, .unset, .unset] [(.int (2147483647 : Int32)), (.int p4), (.ref b94), (.ref wN), (.ref b92), (.ref b92)])) _
        refine XS.iand X97.here hx rfl (hb hby at_77) rfl ?_
        show Steps p.tables e below (T97.setTop (mkF m 78 #[.val (.int p1), .val (.int p2), .val (.int p3), .val (.int p4), .val (.int (2 : Int32)), .val (.ref w_MERCHANT_ID), .val (.int (1 : Int32)), .val (.ref wN), .val (.ref b90), .unset, .unset, .unset] [(.int (p4 &&& (2147483647 : Int32))), (.ref b94), (.ref wN), (.ref b92), (.ref b92)])) _
        refine st102.trans ?_
        show Steps p.tables e below (T102.setTop (mkF m 81 #[.val (.int p1), .val (.int p2), .val (.int p3), .val (.int p4), .val (.int (2 : Int32)), .val (.ref w_MERCHANT_ID), .val (.int (1 : Int32)), .val (.ref wN), .val (.ref b90), .unset, .unset, .unset] [(.ref b92)])) _
        refine XS.astore X102'.here hx rfl (hb hby at_81) rfl rfl (l' := #[.val (.int p1), .val (.int p2), .val (.int p3), .val (.int p4), .val (.int (2 : Int32)), .val (.ref w_MERCHANT_ID), .val (.int (1 : Int32)), .val (.ref wN), .val (.ref b90), .val (.ref b92), .unset, .unset]) rfl ?_
        show Steps p.tables e below (T102.setTop (mkF m 83 #[.val (.int p1), .val (.int p2), .val (.int p3), .val (.int p4), .val (.int (2 : Int32)), .val (.ref w_MERCHANT_ID), .val (.int (1 : Int32)), .val (.ref wN), .val (.ref b90), .val (.ref b92), .unset, .unset] [])) _
        refine XS.iload X102'.here hx rfl (hb hby at_83) rfl ?_
        show Steps p.tables e below (T102.setTop (mkF m 85 #[.val (.int p1), .val (.int p2), .val (.int p3), .val (.int p4), .val (.int (2 : Int32)), .val (.ref w_MERCHANT_ID), .val (.int (1 : Int32)), .val (.ref wN), .val (.ref b90), .val (.ref b92), .unset, .unset] [(.int (2 : Int32))])) _
        refine XS.ifNo X102'.here hx rfl (hb hby at_85) rfl ((if0 _ _).trans (feq (by decide : ¬ ((2 : Int32) = (0 : Int32)))).1) ?_
        show Steps p.tables e below (T102.setTop (mkF m 88 #[.val (.int p1), .val (.int p2), .val (.int p3), .val (.int p4), .val (.int (2 : Int32)), .val (.ref w_MERCHANT_ID), .val (.int (1 : Int32)), .val (.ref wN), .val (.ref b90), .val (.ref b92), .unset, .unset] [])) _
        refine XS.iload X102'.here hx rfl (hb hby at_88) rfl ?_
        show Steps p.tables e below (T102.setTop (mkF m 90 #[.val (.int p1), .val (.int p2), .val (.int p3), .val (.int p4), .val (.int (2 : Int32)), .val (.ref w_MERCHANT_ID), .val (.int (1 : Int32)), .val (.ref wN), .val (.ref b90), .val (.ref b92), .unset, .unset] [(.int (2 : Int32))])) _
        refine XS.iconst X102'.here hx rfl (hb hby at_90) ?_
        show Steps p.tables e below (T102.setTop (mkF m 91 #[.val (.int p1), .val (.int p2), .val (.int p3), .val (.int p4), .val (.int (2 : Int32)), .val (.ref w_MERCHANT_ID), .val (.int (1 : Int32)), .val (.ref wN), .val (.ref b90), .val (.ref b92), .unset, .unset] [(.int (5 : Int32)), (.int (2 : Int32))])) _
        refine XS.icmpYes X102'.here hx rfl (pc0 := 91) (pc' := 98) rfl (hb hby at_91) rfl (feq (by decide : ¬ ((2 : Int32) = (5 : Int32)))).2 (by decide) (by decide) ?_
        show Steps p.tables e below (T102.setTop (mkF m 98 #[.val (.int p1), .val (.int p2), .val (.int p3), .val (.int p4), .val (.int (2 : Int32)), .val (.ref w_MERCHANT_ID), .val (.int (1 : Int32)), .val (.ref wN), .val (.ref b90), .val (.ref b92), .unset, .unset] [])) _
        refine XS.iconst X102'.here hx rfl (hb hby at_98) ?_
        show Steps p.tables e below (T102.setTop (mkF m 99 #[.val (.int p1), .val (.int p2), .val (.int p3), .val (.int p4), .val (.int (2 : Int32)), .val (.ref w_MERCHANT_ID), .val (.int (1 : Int32)), .val (.ref wN), .val (.ref b90), .val (.ref b92), .unset, .unset] [(.int (0 : Int32))])) _
        refine XS.istore X102'.here hx rfl (hb hby at_99) rfl (l' := #[.val (.int p1), .val (.int p2), .val (.int p3), .val (.int p4), .val (.int (2 : Int32)), .val (.ref w_MERCHANT_ID), .val (.int (1 : Int32)), .val (.ref wN), .val (.ref b90), .val (.ref b92), .val (.int (0 : Int32)), .unset]) rfl ?_
        show Steps p.tables e below (T102.setTop (mkF m 101 #[.val (.int p1), .val (.int p2), .val (.int p3), .val (.int p4), .val (.int (2 : Int32)), .val (.ref w_MERCHANT_ID), .val (.int (1 : Int32)), .val (.ref wN), .val (.ref b90), .val (.ref b92), .val (.int (0 : Int32)), .unset] [])) _
        refine XS.iload X102'.here hx rfl (hb hby at_101) rfl ?_
        show Steps p.tables e below (T102.setTop (mkF m 103 #[.val (.int p1), .val (.int p2), .val (.int p3), .val (.int p4), .val (.int (2 : Int32)), .val (.ref w_MERCHANT_ID), .val (.int (1 : Int32)), .val (.ref wN), .val (.ref b90), .val (.ref b92), .val (.int (0 : Int32)), .unset] [(.int (0 : Int32))])) _
        refine XS.iload X102'.here hx rfl (hb hby at_103) rfl ?_
        show Steps p.tables e below (T102.setTop (mkF m 105 #[.val (.int p1), .val (.int p2), .val (.int p3), .val (.int p4), .val (.int (2 : Int32)), .val (.ref w_MERCHANT_ID), .val (.int (1 : Int32)), .val (.ref wN), .val (.ref b90), .val (.ref b92), .val (.int (0 : Int32)), .unset] [(.int (1 : Int32)), (.int (0 : Int32))])) _
        refine XS.icmpYes X102'.here hx rfl (pc0 := 105) (pc' := 112) rfl (hb hby at_105) rfl (feq (by decide : ¬ ((0 : Int32) = (1 : Int32)))).2 (by decide) (by decide) ?_
        show Steps p.tables e below (T102.setTop (mkF m 112 #[.val (.int p1), .val (.int p2), .val (.int p3), .val (.int p4), .val (.int (2 : Int32)), .val (.ref w_MERCHANT_ID), .val (.int (1 : Int32)), .val (.ref wN), .val (.ref b90), .val (.ref b92), .val (.int (0 : Int32)), .unset] [])) _
        refine XS.iconst X102'.here hx rfl (hb hby at_112) ?_
        show Steps p.tables e below (T102.setTop (mkF m 113 #[.val (.int p1), .val (.int p2), .val (.int p3), .val (.int p4), .val (.int (2 : Int32)), .val (.ref w_MERCHANT_ID), .val (.int (1 : Int32)), .val (.ref wN), .val (.ref b90), .val (.ref b92), .val (.int (0 : Int32)), .unset] [(.int (0 : Int32))])) _
        refine XS.istore X102'.here hx rfl (hb hby at_113) rfl (l' := #[.val (.int p1), .val (.int p2), .val (.int p3), .val (.int p4), .val (.int (2 : Int32)), .val (.ref w_MERCHANT_ID), .val (.int (1 : Int32)), .val (.ref wN), .val (.ref b90), .val (.ref b92), .val (.int (0 : Int32)), .val (.int (0 : Int32))]) rfl ?_
        show Steps p.tables e below (T102.setTop (mkF m 115 #[.val (.int p1), .val (.int p2), .val (.int p3), .val (.int p4), .val (.int (2 : Int32)), .val (.ref w_MERCHANT_ID), .val (.int (1 : Int32)), .val (.ref wN), .val (.ref b90), .val (.ref b92), .val (.int (0 : Int32)), .val (.int (0 : Int32))] [])) _
        refine XS.aload X102'.here hx rfl (hb hby at_115) rfl rfl ?_
        show Steps p.tables e below (T102.setTop (mkF m 117 #[.val (.int p1), .val (.int p2), .val (.int p3), .val (.int p4), .val (.int (2 : Int32)), .val (.ref w_MERCHANT_ID), .val (.int (1 : Int32)), .val (.ref wN), .val (.ref b90), .val (.ref b92), .val (.int (0 : Int32)), .val (.int (0 : Int32))] [(.ref w_MERCHANT_ID)])) _
        refine XS.aload X102'.here hx rfl (hb hby at_117) rfl rfl ?_
        show Steps p.tables e below (T102.setTop (mkF m 119 #[.val (.int p1), .val (.int p2), .val (.int p3), .val (.int p4), .val (.int (2 : Int32)), .val (.ref w_MERCHANT_ID), .val (.int (1 : Int32)), .val (.ref wN), .val (.ref b90), .val (.ref b92), .val (.int (0 : Int32)), .val (.int (0 : Int32))] [(.ref b92), (.ref w_MERCHANT_ID)])) _
        refine st103.trans ?_
        show Steps p.tables e below (T103.setTop (mkF m 122 #[.val (.int p1), .val (.int p2), .val (.int p3), .val (.int p4), .val (.int (2 : Int32)), .val (.ref w_MERCHANT_ID), .val (.int (1 : Int32)), .val (.ref wN), .val (.ref b90), .val (.ref b92), .val (.int (0 : Int32)), .val (.int (0 : Int32))] [(.int (0 : Int32))])) _
        refine XS.iload X103.here hx rfl (hb hby at_122) rfl ?_
        show Steps p.tables e below (T103.setTop (mkF m 124 #[.val (.int p1), .val (.int p2), .val (.int p3), .val (.int p4), .val (.int (2 : Int32)), .val (.ref w_MERCHANT_ID), .val (.int (1 : Int32)), .val (.ref wN), .val (.ref b90), .val (.ref b92), .val (.int (0 : Int32)), .val (.int (0 : Int32))] [(.int (0 : Int32)), (.int (0 : Int32))])) _
        refine XS.icmpNo X103.here hx rfl (hb hby at_124) rfl (teq (rfl : (0 : Int32) = (0 : Int32))).2 ?_
        show Steps p.tables e below (T103.setTop (mkF m 127 #[.val (.int p1), .val (.int p2), .val (.int p3), .val (.int p4), .val (.int (2 : Int32)), .val (.ref w_MERCHANT_ID), .val (.int (1 : Int32)), .val (.ref wN), .val (.ref b90), .val (.ref b92), .val (.int (0 : Int32)), .val (.int (0 : Int32))] [])) _
        refine XS.iconst X103.here hx rfl (hb hby at_127) ?_
        show Steps p.tables e below (T103.setTop (mkF m 128 #[.val (.int p1), .val (.int p2), .val (.int p3), .val (.int p4), .val (.int (2 : Int32)), .val (.ref w_MERCHANT_ID), .val (.int (1 : Int32)), .val (.ref wN), .val (.ref b90), .val (.ref b92), .val (.int (0 : Int32)), .val (.int (0 : Int32))] [(.int (1 : Int32))])) _
        refine XS.goto X103.here hx rfl (pc0 := 128) (pc' := 132) rfl (hb hby at_128) (by decide) (by decide) ?_
        show Steps p.tables e below (T103.setTop (mkF m 132 #[.val (.int p1), .val (.int p2), .val (.int p3), .val (.int p4), .val (.int (2 : Int32)), .val (.ref w_MERCHANT_ID), .val (.int (1 : Int32)), .val (.ref wN), .val (.ref b90), .val (.ref b92), .val (.int (0 : Int32)), .val (.int (0 : Int32))] [(.int (1 : Int32))])) _
        exact retN X103 hx (t := .boolean) Bd.returns (by simp) (hb hby at_132) hr
      · show Q_rm0 Z p1 p2 p3 p4 w_AMOUNT w_CURRENCY w_MERCHANT_ID w_IP_ADDRESS w_DEVICE_ID w_USER_AGE w_USER_REGION wN wS zc h0 n0 _ T103.heap _
        rw [e103]
        exact ⟨rfl, N103⟩
  · have pre104 : ∀ t, Steps p.tables e below (s₁.setTop (mkF m 7 #[.val (.int p1), .val (.int p2), .val (.int p3), .val (.int p4), .unset, .unset, .unset, .unset, .unset, .unset, .unset, .unset] [(.int (3 : Int32))])) t → Steps p.tables e below (s₁.setTop (entryFrame m #[(.int p1), (.int p2), (.int p3), (.int p4)] maxLocals)) t := fun t k => pre1 t (by rw [hk]; exact k)
    obtain ⟨_, _, ⟨T105, L105, k105, n105⟩, -, X105, ⟨Lc105, hQ105, l105, y105, z105⟩, st105⟩ := Jvm.LawKit.callS X0 hx (y := (⟨"com/example/riscontro/riscontro/rules/FieldTakesPinLaw", "pick", "(I)Lcom/example/riscontro/riscontro/rules/Field;"⟩ : MethodName)) hown (mvT hZ (hw _ (List.mem_of_getElem? (i := 1) rfl))) (mvT hZ (hw _ (List.mem_of_getElem? (i := 2) rfl))) (mvT hZ (hw _ (List.mem_of_getElem? (i := 3) rfl))) (mvT hZ (hw _ (List.mem_of_getElem? (i := 4) rfl))) (by decide) (backOf (W := 0) (rm1 l Z a0 hw [] (3 : Int32) w_AMOUNT w_CURRENCY w_MERCHANT_ID w_IP_ADDRESS w_DEVICE_ID w_USER_AGE w_USER_REGION w_IP_ADDRESS h0 n0 Z0 S_AMOUNT S_CURRENCY S_MERCHANT_ID S_IP_ADDRESS S_DEVICE_ID S_USER_AGE S_USER_REGION rfl) hZ (hw _ (List.mem_of_getElem? (i := 4) rfl)) (hw _ (List.mem_of_getElem? (i := 3) rfl)) (by decide) (by decide)) (g := (mkF m 11 #[.val (.int p1), .val (.int p2), .val (.int p3), .val (.int p4), .val (.int (3 : Int32)), .unset, .unset, .unset, .unset, .unset, .unset, .unset] [(.int (3 : Int32))])) rfl (by rw [hml]; rfl) (argsL := [(.int (3 : Int32))]) (rest := []) (lenOf pd_rm0_0 rfl) rfl (by show 2 * 0 + _ ≤ _; exact Nat.le_of_eq rfl) (hb hby at_11) (fun _ _ => ⟨rfl, e0, (by decide : 0 + 0 ≤ _), (by decide : 0 + 0 ≤ _)⟩)
    dsimp only [Pt.U, Pt.locs, Pt.cells, Pt.slots] at X105 l105 y105 z105 st105 hQ105
    subst l105 y105 z105
    obtain ⟨rfl, N105q, e105⟩ := hQ105
    have N105 := Fr.app N0 N105q
    have pre106 : ∀ t, Steps p.tables e below (T105.setTop (mkF m 19 #[.val (.int p1), .val (.int p2), .val (.int p3), .val (.int p4), .val (.int (3 : Int32)), .val (.ref w_IP_ADDRESS), .unset, .unset, .unset, .unset, .unset, .unset] [(.int (p2 &&& (1 : Int32)))])) t → Steps p.tables e below (s₁.setTop (entryFrame m #[(.int p1), (.int p2), (.int p3), (.int p4)] maxLocals)) t := fun t k => pre104 t (by
        show Steps p.tables e below (s₁.setTop (mkF m 7 #[.val (.int p1), .val (.int p2), .val (.int p3), .val (.int p4), .unset, .unset, .unset, .unset, .unset, .unset, .unset, .unset] [(.int (3 : Int32))])) _
        refine XS.istore X0.here hx rfl (hb hby at_7) rfl (l' := #[.val (.int p1), .val (.int p2), .val (.int p3), .val (.int p4), .val (.int (3 : Int32)), .unset, .unset, .unset, .unset, .unset, .unset, .unset]) rfl ?_
        show Steps p.tables e below (s₁.setTop (mkF m 9 #[.val (.int p1), .val (.int p2), .val (.int p3), .val (.int p4), .val (.int (3 : Int32)), .unset, .unset, .unset, .unset, .unset, .unset, .unset] [])) _
        refine XS.iload X0.here hx rfl (hb hby at_9) rfl ?_
        show Steps p.tables e below (s₁.setTop (mkF m 11 #[.val (.int p1), .val (.int p2), .val (.int p3), .val (.int p4), .val (.int (3 : Int32)), .unset, .unset, .unset, .unset, .unset, .unset, .unset] [(.int (3 : Int32))])) _
        refine st105 _ ?_
        show Steps p.tables e below (T105.setTop (mkF m 14 #[.val (.int p1), .val (.int p2), .val (.int p3), .val (.int p4), .val (.int (3 : Int32)), .unset, .unset, .unset, .unset, .unset, .unset, .unset] [(.ref w_IP_ADDRESS)])) _
        refine XS.astore X105.here hx rfl (hb hby at_14) rfl rfl (l' := #[.val (.int p1), .val (.int p2), .val (.int p3), .val (.int p4), .val (.int (3 : Int32)), .val (.ref w_IP_ADDRESS), .unset, .unset, .unset, .unset, .unset, .unset]) rfl ?_
        show Steps p.tables e below (T105.setTop (mkF m 16 #[.val (.int p1), .val (.int p2), .val (.int p3), .val (.int p4), .val (.int (3 : Int32)), .val (.ref w_IP_ADDRESS), .unset, .unset, .unset, .unset, .unset, .unset] [])) _
        refine XS.iloadN X105.here hx rfl (hb hby at_16) rfl ?_
        show Steps p.tables e below (T105.setTop (mkF m 17 #[.val (.int p1), .val (.int p2), .val (.int p3), .val (.int p4), .val (.int (3 : Int32)), .val (.ref w_IP_ADDRESS), .unset, .unset, .unset, .unset, .unset, .unset] [(.int p2)])) _
        refine XS.iconst X105.here hx rfl (hb hby at_17) ?_
        show Steps p.tables e below (T105.setTop (mkF m 18 #[.val (.int p1), .val (.int p2), .val (.int p3), .val (.int p4), .val (.int (3 : Int32)), .val (.ref w_IP_ADDRESS), .unset, .unset, .unset, .unset, .unset, .unset] [(.int (1 : Int32)), (.int p2)])) _
        refine XS.iand X105.here hx rfl (hb hby at_18) rfl ?_
        exact k)
    by_cases hc107 : (p2 &&& (1 : Int32)) = (0 : Int32)
    · obtain ⟨T108, X108, e108, st108⟩ := getS2 X105 hx hZ hown (host := "") (Or.inl (hw _ (List.mem_of_getElem? (i := 84) rfl))) Via.refl e105 S_STRING (g := (mkF m 40 #[.val (.int p1), .val (.int p2), .val (.int p3), .val (.int p4), .val (.int (3 : Int32)), .val (.ref w_IP_ADDRESS), .val (.int (0 : Int32)), .unset, .unset, .unset, .unset, .unset] [])) rfl (hb hby at_40)
      obtain ⟨T109, h109, k109, X109, e109, E109, A109, st109⟩ := newP X108 hx hZ (hw _ (List.mem_of_getElem? (i := 11) rfl)) e108 (g := (mkF m 46 #[.val (.int p1), .val (.int p2), .val (.int p3), .val (.int p4), .val (.int (3 : Int32)), .val (.ref w_IP_ADDRESS), .val (.int (0 : Int32)), .val (.ref wS), .unset, .unset, .unset, .unset] [(.int (1 : Int32))])) rfl (hb hby at_46) rfl (by decide) (cap := 1) (by decide) (by decide) (by decide) (by decide)
      obtain ⟨b109, g109⟩ : ∃ z, z = h0.size := ⟨_, rfl⟩
      rw [← g109] at A109 st109
      have V_b109 : Arv Z h109 b109 k109 .char (1 : Int32) [(.int (0 : Int32))] (.int (0 : Int32)) := (Arv.new A109 (by decide)).pad (pad_rep [] (.int (0 : Int32)) 1)
      have g_b109 : n0 ≤ b109 := Nat.le_trans Z0 (Nat.le_of_eq g109.symm)
      have sz_b109 : h0.size ≤ b109 := Nat.le_trans ((Keep.refl h0 [])).1 (Nat.le_of_eq g109.symm)
      have K109 : Keep h0 h109 [] := ((Keep.refl h0 [])).ext E109
      obtain ⟨cl110, Ar110, q110, S110, N110_, H110, G110⟩ := id V_b109
      obtain ⟨T110, h110, X110, e110, W110, st110⟩ := stC X109 hx hZ e109 Ar110 (j := (0 : Int32)) (inb_of S110 ⟨by decide, by decide⟩) (g := (mkF m 56 #[.val (.int p1), .val (.int p2), .val (.int p3), .val (.int p4), .val (.int (3 : Int32)), .val (.ref w_IP_ADDRESS), .val (.int (0 : Int32)), .val (.ref wS), .unset, .unset, .unset, .unset] [(.int ((p3 &&& (255 : Int32)).toUInt32.toUInt16.toUInt32.toInt32)), (.int (0 : Int32)), (.ref b109), (.ref b109)])) rfl rfl (hb hby at_56)
      have V110 := Arv.set Ar110 q110 S110 N110_ H110 G110 (fits_nar_char _) W110 0 rfl (Nat.le_of_ble_eq_true rfl)
      have K110 : Keep h0 h110 [] := (K109).wr W110 (Or.inr sz_b109)
      have N110 := Fr.snoc X110 N105 g_b109
      obtain ⟨T111, h111, X111, e111, E111, A111, D111, -, st111⟩ := newO X110 hx hZ hown (hw _ (List.mem_of_getElem? (i := 12) rfl)) (hw _ (List.mem_of_getElem? (i := 13) rfl)) (hw _ (List.mem_of_getElem? (i := 14) rfl)) e110 (g := (mkF m 59 #[.val (.int p1), .val (.int p2), .val (.int p3), .val (.int p4), .val (.int (3 : Int32)), .val (.ref w_IP_ADDRESS), .val (.int (0 : Int32)), .val (.ref wS), .val (.ref b109), .unset, .unset, .unset] [])) rfl (hb hby at_59) (by decide) (by decide)
      obtain ⟨b111, g111⟩ : ∃ z, z = h110.size := ⟨_, rfl⟩
      rw [← g111] at A111 D111 st111
      have ne_b109_b111 : b109 ≠ b111 := Nat.ne_of_lt (Nat.lt_of_lt_of_le V110.lt (Nat.le_of_eq g111.symm))
      have g_b111 : n0 ≤ b111 := Nat.le_trans (Nat.le_trans Z0 K110.1) (Nat.le_of_eq g111.symm)
      have sz_b111 : h0.size ≤ b111 := Nat.le_trans (K110).1 (Nat.le_of_eq g111.symm)
      have K111 : Keep h0 h111 [] := (K110).ext E111
      have F111_kind : Fld Z h111 b111 "com/example/riscontro/riscontro/rules/Token" "kind" "Lcom/example/riscontro/riscontro/rules/Token$Kind;" .null := D111 (Or.inr (hw _ (List.mem_of_getElem? (i := 62) rfl))) (ty := (.object "com/example/riscontro/riscontro/rules/Token$Kind")) (by decide)
      have F111_text : Fld Z h111 b111 "com/example/riscontro/riscontro/rules/Token" "text" "Ljava/lang/String;" .null := D111 (Or.inr (hw _ (List.mem_of_getElem? (i := 64) rfl))) (ty := (.object "java/lang/String")) (by decide)
      have F111_start : Fld Z h111 b111 "com/example/riscontro/riscontro/rules/Token" "start" "I" (.int (0 : Int32)) := D111 (Or.inr (hw _ (List.mem_of_getElem? (i := 66) rfl))) (ty := .int) (by decide)
      have f112 := (V110.ext E111)
      obtain ⟨T113, h113, X113, e113, E113, A113, D113, -, st113⟩ := newO X111 hx hZ hown (hw _ (List.mem_of_getElem? (i := 15) rfl)) (hw _ (List.mem_of_getElem? (i := 16) rfl)) (hw _ (List.mem_of_getElem? (i := 17) rfl)) e111 (g := (mkF m 65 #[.val (.int p1), .val (.int p2), .val (.int p3), .val (.int p4), .val (.int (3 : Int32)), .val (.ref w_IP_ADDRESS), .val (.int (0 : Int32)), .val (.ref wS), .val (.ref b109), .unset, .unset, .unset] [(.ref wS), (.ref b111), (.ref b111)])) rfl (hb hby at_65) (by decide) (by decide)
      obtain ⟨b113, g113⟩ : ∃ z, z = h111.size := ⟨_, rfl⟩
      rw [← g113] at A113 D113 st113
      have ne_b109_b113 : b109 ≠ b113 := Nat.ne_of_lt (Nat.lt_of_lt_of_le f112.lt (Nat.le_of_eq g113.symm))
      have ne_b111_b113 : b111 ≠ b113 := Nat.ne_of_lt (Nat.lt_of_lt_of_le A111.lt (Nat.le_of_eq g113.symm))
      have g_b113 : n0 ≤ b113 := Nat.le_trans (Nat.le_trans Z0 K111.1) (Nat.le_of_eq g113.symm)
      have sz_b113 : h0.size ≤ b113 := Nat.le_trans (K111).1 (Nat.le_of_eq g113.symm)
      have K113 : Keep h0 h113 [] := (K111).ext E113
      have F113_coder : Fld Z h113 b113 "java/lang/String" "coder" "B" (.int (0 : Int32)) := D113 (Or.inr (hw _ (List.mem_of_getElem? (i := 41) rfl))) (ty := .byte) (by decide)
      have F113_value : Fld Z h113 b113 "java/lang/String" "value" "[B" .null := D113 (Or.inr (hw _ (List.mem_of_getElem? (i := 43) rfl))) (ty := (.array .byte)) (by decide)
      have f114 := (f112.ext E113)
      have V115 : Arv Z h113 b109 _ .char (1 : Int32) (([nar .char ((p3 &&& (255 : Int32)).toUInt32.toUInt16.toUInt32.toInt32)] : List Int32).map Value.int) (.int (0 : Int32)) := f114
      have hws : ∀ d ∈ StrChars.Road.words, d.before a0 Z = true := fun d hd => hw d ((by decide +kernel : ∀ d ∈ StrChars.Road.words, d ∈ tables_1) d hd)
      obtain ⟨_, _, ⟨T116, L116, k116, n116⟩, -, X116, ⟨Lc116, hQ116, l116, y116, z116⟩, st116⟩ := X113.specialBack hx (y := (⟨"java/lang/String", "<init>", "([C)V"⟩ : MethodName)) rfl hown (mvT hZ (hw _ (List.mem_of_getElem? (i := 18) rfl))) (mvT hZ (hw _ (List.mem_of_getElem? (i := 19) rfl))) (mvT hZ (hw _ (List.mem_of_getElem? (i := 20) rfl))) (by decide) (StrChars.Road.backV (W := 4) hZ hws (kI := 4) (hw _ (List.mem_of_getElem? (i := 16) rfl)) (cs := [nar .char ((p3 &&& (255 : Int32)).toUInt32.toUInt16.toUInt32.toInt32)]) (bs := ([nar .char ((p3 &&& (255 : Int32)).toUInt32.toUInt16.toUInt32.toInt32)] : List Int32).map (fun c => c.toInt8.toInt32)) (n := 1) g_b113 (Nat.le_trans Z0 K113.1) A113 F113_value F113_coder V115 (Sta.ext (own_keep_ext K113) S_C) hzc rfl rfl (by decide) (by decide) (own_chrb p3) rfl (by decide) (by decide)) (g := (mkF m 71 #[.val (.int p1), .val (.int p2), .val (.int p3), .val (.int p4), .val (.int (3 : Int32)), .val (.ref w_IP_ADDRESS), .val (.int (0 : Int32)), .val (.ref wS), .val (.ref b109), .unset, .unset, .unset] [(.ref b109), (.ref b113), (.ref b113), (.ref wS), (.ref b111), (.ref b111)])) rfl (by rw [hml]; rfl) (Steps.refl _) (a := b113) (argsL := [(.ref b109)]) (rest := [(.ref b113), (.ref wS), (.ref b111), (.ref b111)]) (lenOf pd_rm0_1 rfl) rfl (by show 2 * 0 + _ ≤ _; exact Nat.le_of_eq rfl) (hb hby at_71) (fun _ _ => ⟨rfl, e113, (by decide : 3 + 1 ≤ _), (by decide : 8 + 1 ≤ _)⟩)
      dsimp only [Pt.U, Pt.locs, Pt.cells, Pt.slots] at X116 l116 y116 z116 st116 hQ116
      subst l116 y116 z116
      obtain ⟨rfl, N116q, K116q, A116q, C116q, t116, k116, g1161, g1162, g1163, F116q, B116q⟩ := hQ116
      have N116 := Fr.app N110 N116q
      have K116 : Keep h0 T116.heap [] := (K113).trans K116q (allS (Or.inr sz_b113) all0)
      have f117 := ((Exa.ext E113 A111).keep K116q)
      have f118 := ((Fld.ext E113 F111_kind).keep K116q (ninS ne_b111_b113 nin0))
      have f119 := ((Fld.ext E113 F111_text).keep K116q (ninS ne_b111_b113 nin0))
      have f120 := ((Fld.ext E113 F111_start).keep K116q (ninS ne_b111_b113 nin0))
      obtain ⟨_, _, ⟨T121, L121, k121, n121⟩, -, X121, hS2_121, hg_121, ⟨Lc121, hQ121, l121, y121, z121⟩, st121⟩ := X116.specialBackS hx (y := (⟨"com/example/riscontro/riscontro/rules/Token", "<init>", "(Lcom/example/riscontro/riscontro/rules/Token$Kind;Ljava/lang/String;I)V"⟩ : MethodName)) rfl hown (mvT hZ (hw _ (List.mem_of_getElem? (i := 44) rfl))) (mvT hZ (hw _ (List.mem_of_getElem? (i := 45) rfl))) (mvT hZ (hw _ (List.mem_of_getElem? (i := 46) rfl))) (by decide) (backOfS (W := 1) (rmT l Z a0 hw [] b111 wS b113 (p4 &&& (2147483647 : Int32)) T116.heap n0 (Nat.le_trans Z0 K116.1) f117 f118 f119 f120 g_b111 (own_start p4)) hZ (hw _ (List.mem_of_getElem? (i := 46) rfl)) (hw _ (List.mem_of_getElem? (i := 14) rfl)) (by decide) (by decide)) (g := (mkF m 78 #[.val (.int p1), .val (.int p2), .val (.int p3), .val (.int p4), .val (.int (3 : Int32)), .val (.ref w_IP_ADDRESS), .val (.int (0 : Int32)), .val (.ref wS), .val (.ref b109), .unset, .unset, .unset] [(.int (p4 &&& (2147483647 : Int32))), (.ref b113), (.ref wS), (.ref b111), (.ref b111)])) rfl (by rw [hml]; rfl) (Steps.refl _) (a := b111) (argsL := [(.ref wS), (.ref b113), (.int (p4 &&& (2147483647 : Int32)))]) (rest := [(.ref b111)]) (lenOf pd_rm0_2 rfl) rfl (by show 2 * 0 + _ ≤ _; exact Nat.le_of_eq rfl) (hb hby at_78) (fun _ _ => ⟨rfl, rfl, (by decide : 4 + 4 ≤ _), (by decide : 9 + 40 ≤ _)⟩)
      dsimp only [Pt.U, Pt.locs, Pt.cells, Pt.slots] at X121 l121 y121 z121 st121 hQ121
      subst l121 y121 z121
      obtain ⟨X121', hS121', hZ121', hown121'⟩ := rebS (s := s) (vm0 := s.vm) hS0 (show _ ≤ T116.heap.size by exact (Nat.le_trans (Nat.le_trans (Nat.le_trans (Nat.le_trans (Nat.le_trans (Nat.zero_le _) (E109).1) (Keep.of_wr W110).1) (E111).1) (E113).1) (K116q).1)) X121 hS2_121 hg_121 hZ hown
      obtain ⟨rfl, N121q, K121q, A121q, G121q⟩ := hQ121
      have N121 := Fr.app N116 N121q
      have K121 : Keep h0 T121.heap [] := (K116).trans K121q (allS (Or.inr sz_b111) all0)
      obtain ⟨cq122, kq122, q122a, q122b, q122c⟩ := isOf hZ121' rfl (Exa.ext (own_keep_ext K121) E_IP_ADDRESS)
      obtain ⟨_, _, ⟨T122, L122, k122, n122⟩, -, X122, ⟨Lc122, hQ122, l122, y122, z122⟩, st122⟩ := X121'.virtualBack hx (y := (⟨"com/example/riscontro/riscontro/rules/Field", "takes", "(Lcom/example/riscontro/riscontro/rules/Token;)Z"⟩ : MethodName)) (z := (⟨"com/example/riscontro/riscontro/rules/Field", "takes", "(Lcom/example/riscontro/riscontro/rules/Token;)Z"⟩ : MethodName)) hown121' (mvT hZ121' (hw _ (List.mem_of_getElem? (i := 67) rfl))) (mvT hZ121' (hw _ (List.mem_of_getElem? (i := 68) rfl))) (notFace_of_selects (args := #[]) (mvT hZ121' (hw _ (List.mem_of_getElem? (i := 70) rfl)))) (mvT hZ121' (hw _ (List.mem_of_getElem? (i := 70) rfl))) (mvT hZ121' (hw _ (List.mem_of_getElem? (i := 69) rfl))) (by decide) (backOf (W := 0) (rmX l Z a0 hw [] w_IP_ADDRESS b111 wS wS (1 : Int32) T121.heap n0 (Nat.le_trans Z0 K121.1) (Fld.ext (own_keep_ext K121) V_IP_ADDRESS) G121q A121q (if_pos rfl)) hZ121' (hw _ (List.mem_of_getElem? (i := 71) rfl)) (hw _ (List.mem_of_getElem? (i := 6) rfl)) (by decide) (by decide)) q122a q122c (g := (mkF m 119 #[.val (.int p1), .val (.int p2), .val (.int p3), .val (.int p4), .val (.int (3 : Int32)), .val (.ref w_IP_ADDRESS), .val (.int (0 : Int32)), .val (.ref wS), .val (.ref b109), .val (.ref b111), .val (.int (0 : Int32)), .val (.int (1 : Int32))] [(.ref b111), (.ref w_IP_ADDRESS)])) rfl (by rw [hml]; rfl) (Steps.refl _) (argsL := [(.ref b111)]) (rest := []) (lenOf pd_rm0_3 rfl) rfl (by show 2 * 0 + _ ≤ _; exact Nat.le_of_eq rfl) (hb hby at_119) (fun _ _ => ⟨rfl, rfl, (by decide : 8 + 0 ≤ _), (by decide : 49 + 0 ≤ _)⟩)
      dsimp only [Pt.U, Pt.locs, Pt.cells, Pt.slots] at X122 l122 y122 z122 st122 hQ122
      subst l122 y122 z122
      obtain ⟨rfl, N122q, e122⟩ := hQ122
      have N122 := Fr.app N121 N122q
      obtain ⟨fs, hr, hrun, hended, hRW⟩ := Jvm.Stand.leaveW (s := s) (vm₁ := T121.vm) X122 hS121' (show _ ≤ T122.heap.size by rw [e122]; exact (Nat.le_refl T121.heap.size)) (v := some (.int (1 : Int32))) (fun h => by rw [Bd.returns] at h; cases h)
      refine ⟨_, _, pre106 _ ?_, hrun, hended, _, _, rfl, ?_, hRW.1, hRW.2.1, hRW.2.2.1, hRW.2.2.2.mono (by decide) (by decide)⟩
      · show Steps p.tables e below (T105.setTop (mkF m 19 #[.val (.int p1), .val (.int p2), .val (.int p3), .val (.int p4), .val (.int (3 : Int32)), .val (.ref w_IP_ADDRESS), .unset, .unset, .unset, .unset, .unset, .unset] [(.int (p2 &&& (1 : Int32)))])) _
        refine XS.ifYes X105.here hx rfl (pc0 := 19) (pc' := 26) rfl (hb hby at_19) rfl ((if0 _ _).trans (teq hc107).1) (by decide) (by decide) ?_
        show Steps p.tables e below (T105.setTop (mkF m 26 #[.val (.int p1), .val (.int p2), .val (.int p3), .val (.int p4), .val (.int (3 : Int32)), .val (.ref w_IP_ADDRESS), .unset, .unset, .unset, .unset, .unset, .unset] [])) _
        refine XS.iconst X105.here hx rfl (hb hby at_26) ?_
        show Steps p.tables e below (T105.setTop (mkF m 27 #[.val (.int p1), .val (.int p2), .val (.int p3), .val (.int p4), .val (.int (3 : Int32)), .val (.ref w_IP_ADDRESS), .unset, .unset, .unset, .unset, .unset, .unset] [(.int (0 : Int32))])) _
        refine XS.istore X105.here hx rfl (hb hby at_27) rfl (l' := #[.val (.int p1), .val (.int p2), .val (.int p3), .val (.int p4), .val (.int (3 : Int32)), .val (.ref w_IP_ADDRESS), .val (.int (0 : Int32)), .unset, .unset, .unset, .unset, .unset]) rfl ?_
        show Steps p.tables e below (T105.setTop (mkF m 29 #[.val (.int p1), .val (.int p2), .val (.int p3), .val (.int p4), .val (.int (3 : Int32)), .val (.ref w_IP_ADDRESS), .val (.int (0 : Int32)), .unset, .unset, .unset, .unset, .unset] [])) _
        refine XS.iload X105.here hx rfl (hb hby at_29) rfl ?_
        show Steps p.tables e below (T105.setTop (mkF m 31 #[.val (.int p1), .val (.int p2), .val (.int p3), .val (.int p4), .val (.int (3 : Int32)), .val (.ref w_IP_ADDRESS), .val (.int (0 : Int32)), .unset, .unset, .unset, .unset, .unset] [(.int (0 : Int32))])) _
        refine XS.ifYes X105.here hx rfl (pc0 := 31) (pc' := 40) rfl (hb hby at_31) rfl ((if0 _ _).trans (teq (rfl : (0 : Int32) = (0 : Int32))).1) (by decide) (by decide) ?_
        show Steps p.tables e below (T105.setTop (mkF m 40 #[.val (.int p1), .val (.int p2), .val (.int p3), .val (.int p4), .val (.int (3 : Int32)), .val (.ref w_IP_ADDRESS), .val (.int (0 : Int32)), .unset, .unset, .unset, .unset, .unset] [])) _
        refine st108 _ ?_
        show Steps p.tables e below (T108.setTop (mkF m 43 #[.val (.int p1), .val (.int p2), .val (.int p3), .val (.int p4), .val (.int (3 : Int32)), .val (.ref w_IP_ADDRESS), .val (.int (0 : Int32)), .unset, .unset, .unset, .unset, .unset] [(.ref wS)])) _
        refine XS.astore X108.here hx rfl (hb hby at_43) rfl rfl (l' := #[.val (.int p1), .val (.int p2), .val (.int p3), .val (.int p4), .val (.int (3 : Int32)), .val (.ref w_IP_ADDRESS), .val (.int (0 : Int32)), .val (.ref wS), .unset, .unset, .unset, .unset]) rfl ?_
        show Steps p.tables e below (T108.setTop (mkF m 45 #[.val (.int p1), .val (.int p2), .val (.int p3), .val (.int p4), .val (.int (3 : Int32)), .val (.ref w_IP_ADDRESS), .val (.int (0 : Int32)), .val (.ref wS), .unset, .unset, .unset, .unset] [])) _
        refine XS.iconst X108.here hx rfl (hb hby at_45) ?_
        show Steps p.tables e below (T108.setTop (mkF m 46 #[.val (.int p1), .val (.int p2), .val (.int p3), .val (.int p4), .val (.int (3 : Int32)), .val (.ref w_IP_ADDRESS), .val (.int (0 : Int32)), .val (.ref wS), .unset, .unset, .unset, .unset] [(.int (1 : Int32))])) _
        refine st109 _ ?_
        show Steps p.tables e below (T109.setTop (mkF m 48 #[.val (.int p1), .val (.int p2), .val (.int p3), .val (.int p4), .val (.int (3 : Int32)), .val (.ref w_IP_ADDRESS), .val (.int (0 : Int32)), .val (.ref wS), .unset, .unset, .unset, .unset] [(.ref b109)])) _
        refine XS.dup X109.here hx rfl (hb hby at_48) rfl rfl ?_
        show Steps p.tables e below (T109.setTop (mkF m 49 #[.val (.int p1), .val (.int p2), .val (.int p3), .val (.int p4), .val (.int (3 : Int32)), .val (.ref w_IP_ADDRESS), .val (.int (0 : Int32)), .val (.ref wS), .unset, .unset, .unset, .unset] [(.ref b109), (.ref b109)])) _
        refine XS.iconst X109.here hx rfl (hb hby at_49) ?_
        show Steps p.tables e below (T109.setTop (mkF m 50 #[.val (.int p1), .val (.int p2), .val (.int p3), .val (.int p4), .val (.int (3 : Int32)), .val (.ref w_IP_ADDRESS), .val (.int (0 : Int32)), .val (.ref wS), .unset, .unset, .unset, .unset] [(.int (0 : Int32)), (.ref b109), (.ref b109)])) _
        refine XS.iloadN X109.here hx rfl (hb hby at_50) rfl ?_
        show Steps p.tables e below (T109.setTop (mkF m 51 #[.val (.int p1), .val (.int p2), .val (.int p3), .val (.int p4), .val (.int (3 : Int32)), .val (.ref w_IP_ADDRESS), .val (.int (0 : Int32)), .val (.ref wS), .unset, .unset, .unset, .unset] [(.int p3), (.int (0 : Int32)), (.ref b109), (.ref b109)])) _
        refine XS.sipush X109.here hx rfl (hb hby at_51) ?_
        show Steps p.tables e below (T109.setTop (mkF m 54 #[.val (.int p1), .val (.int p2), .val (.int p3), .val (.int p4), .val (.int (3 : Int32)), .val (.ref w_IP_ADDRESS), .val (.int (0 : Int32)), .val (.ref wS), .unset, .unset, .unset, .unset] [(.int (255 : Int32)), (.int p3), (.int (0 : Int32)), (.ref b109), (.ref b109)])) _
        refine XS.iand X109.here hx rfl (hb hby at_54) rfl ?_
        show Steps p.tables e below (T109.setTop (mkF m 55 #[.val (.int p1), .val (.int p2), .val (.int p3), .val (.int p4), .val (.int (3 : Int32)), .val (.ref w_IP_ADDRESS), .val (.int (0 : Int32)), .val (.ref wS), .unset, .unset, .unset, .unset] [(.int (p3 &&& (255 : Int32))), (.int (0 : Int32)), (.ref b109), (.ref b109)])) _
        refine XS.i2c X109.here hx rfl (hb hby at_55) rfl ?_
        show Steps p.tables e below (T109.setTop (mkF m 56 #[.val (.int p1), .val (.int p2), .val (.int p3), .val (.int p4), .val (.int (3 : Int32)), .val (.ref w_IP_ADDRESS), .val (.int (0 : Int32)), .val (.ref wS), .unset, .unset, .unset, .unset] [(.int ((p3 &&& (255 : Int32)).toUInt32.toUInt16.toUInt32.toInt32)), (.int (0 : Int32)), (.ref b109), (.ref b109)])) _
        refine st110 _ ?_
        show Steps p.tables e below (T110.setTop (mkF m 57 #[.val (.int p1), .val (.int p2), .val (.int p3), .val (.int p4), .val (.int (3 : Int32)), .val (.ref w_IP_ADDRESS), .val (.int (0 : Int32)), .val (.ref wS), .unset, .unset, .unset, .unset] [(.ref b109)])) _
        refine XS.astore X110.here hx rfl (hb hby at_57) rfl rfl (l' := #[.val (.int p1), .val (.int p2), .val (.int p3), .val (.int p4), .val (.int (3 : Int32)), .val (.ref w_IP_ADDRESS), .val (.int (0 : Int32)), .val (.ref wS), .val (.ref b109), .unset, .unset, .unset]) rfl ?_
        show Steps p.tables e below (T110.setTop (mkF m 59 #[.val (.int p1), .val (.int p2), .val (.int p3), .val (.int p4), .val (.int (3 : Int32)), .val (.ref w_IP_ADDRESS), .val (.int (0 : Int32)), .val (.ref wS), .val (.ref b109), .unset, .unset, .unset] [])) _
        refine st111 _ ?_
        show Steps p.tables e below (T111.setTop (mkF m 62 #[.val (.int p1), .val (.int p2), .val (.int p3), .val (.int p4), .val (.int (3 : Int32)), .val (.ref w_IP_ADDRESS), .val (.int (0 : Int32)), .val (.ref wS), .val (.ref b109), .unset, .unset, .unset] [(.ref b111)])) _
        refine XS.dup X111.here hx rfl (hb hby at_62) rfl rfl ?_
        show Steps p.tables e below (T111.setTop (mkF m 63 #[.val (.int p1), .val (.int p2), .val (.int p3), .val (.int p4), .val (.int (3 : Int32)), .val (.ref w_IP_ADDRESS), .val (.int (0 : Int32)), .val (.ref wS), .val (.ref b109), .unset, .unset, .unset] [(.ref b111), (.ref b111)])) _
        refine XS.aload X111.here hx rfl (hb hby at_63) rfl rfl ?_
        show Steps p.tables e below (T111.setTop (mkF m 65 #[.val (.int p1), .val (.int p2), .val (.int p3), .val (.int p4), .val (.int (3 : Int32)), .val (.ref w_IP_ADDRESS), .val (.int (0 : Int32)), .val (.ref wS), .val (.ref b109), .unset, .unset, .unset] [(.ref wS), (.ref b111), (.ref b111)])) _
        refine st113 _ ?_
        show Steps p.tables e below (T113.setTop (mkF m 68 #[.val (.int p1), .val (.int p2), .val (.int p3), .val (.int p4), .val (.int (3 : Int32)), .val (.ref w_IP_ADDRESS), .val (.int (0 : Int32)), .val (.ref wS), .val (.ref b109), .unset, .unset, .unset] [(.ref b113), (.ref wS), (.ref b111), (.ref b111)])) _
        refine XS.dup X113.here hx rfl (hb hby at_68) rfl rfl ?_
        show Steps p.tables e below (T113.setTop (mkF m 69 #[.val (.int p1), .val (.int p2), .val (.int p3), .val (.int p4), .val (.int (3 : Int32)), .val (.ref w_IP_ADDRESS), .val (.int (0 : Int32)), .val (.ref wS), .val (.ref b109), .unset, .unset, .unset] [(.ref b113), (.ref b113), (.ref wS), (.ref b111), (.ref b111)])) _
        refine XS.aload X113.here hx rfl (hb hby at_69) rfl rfl ?_
        show Steps p.tables e below (T113.setTop (mkF m 71 #[.val (.int p1), .val (.int p2), .val (.int p3), .val (.int p4), .val (.int (3 : Int32)), .val (.ref w_IP_ADDRESS), .val (.int (0 : Int32)), .val (.ref wS), .val (.ref b109), .unset, .unset, .unset] [(.ref b109), (.ref b113), (.ref b113), (.ref wS), (.ref b111), (.ref b111)])) _
        refine st116.trans ?_
        show Steps p.tables e below (T116.setTop (mkF m 74 #[.val (.int p1), .val (.int p2), .val (.int p3), .val (.int p4), .val (.int (3 : Int32)), .val (.ref w_IP_ADDRESS), .val (.int (0 : Int32)), .val (.ref wS), .val (.ref b109), .unset, .unset, .unset] [(.ref b113), (.ref wS), (.ref b111), (.ref b111)])) _
        refine XS.iloadN X116.here hx rfl (hb hby at_74) rfl ?_
        show Steps p.tables e below (T116.setTop (mkF m 75 #[.val (.int p1), .val (.int p2), .val (.int p3), .val (.int p4), .val (.int (3 : Int32)), .val (.ref w_IP_ADDRESS), .val (.int (0 : Int32)), .val (.ref wS), .val (.ref b109), .unset, .unset, .unset] [(.int p4), (.ref b113), (.ref wS), (.ref b111), (.ref b111)])) _
        refine X116.ldcInt hx hown (mvT hZ (hw _ (List.mem_of_getElem? (i := 0) rfl))) (g := (mkF m 75 #[.val (.int p1), .val (.int p2), .val (.int p3), .val (.int p4), .val (.int (3 : Int32)), .val (.ref w_IP_ADDRESS), .val (.int (0 : Int32)), .val (.ref wS), .val (.ref b109), .unset, .unset, .unset] [(.int p4), (.ref b113), (.ref wS), (.ref b111), (.ref b111)])) rfl (hb hby at_75) _ ?_
        show Steps p.tables e below (T116.setTop (mkF m 77 #[.val (.int p1), .val (.int p2), .val (.int p3), .val (.int p4), .val (.int (3 : Int32)), .val (.ref w_IP_ADDRESS), .val (.int (0 : Int32)), .val (.ref wS), .val (.ref b109), .unset, .unset, .unset] [(.int (2147483647 : Int32)), (.int p4), (.ref b113), (.ref wS), (.ref b111), (.ref b111)])) _
        refine XS.iand X116.here hx rfl (hb hby at_77) rfl ?_
        show Steps p.tables e below (T116.setTop (mkF m 78 #[.val (.int p1), .val (.int p2), .val (.int p3), .val (.int p4), .val (.int (3 : Int32)), .val (.ref w_IP_ADDRESS), .val (.int (0 : Int32)), .val (.ref wS), .val (.ref b109), .unset, .unset, .unset] [(.int (p4 &&& (2147483647 : Int32))), (.ref b113), (.ref wS), (.ref b111), (.ref b111)])) _
        refine st121.trans ?_
        show Steps p.tables e below (T121.setTop (mkF m 81 #[.val (.int p1), .val (.int p2), .val (.int p3), .val (.int p4), .val (.int (3 : Int32)), .val (.ref w_IP_ADDRESS), .val (.int (0 : Int32)), .val (.ref wS), .val (.ref b109), .unset, .unset, .unset] [(.ref b111)])) _
        refine XS.astore X121'.here hx rfl (hb hby at_81) rfl rfl (l' := #[.val (.int p1), .val (.int p2), .val (.int p3), .val (.int p4), .val (.int (3 : Int32)), .val (.ref w_IP_ADDRESS), .val (.int (0 : Int32)), .val (.ref wS), .val (.ref b109), .val (.ref b111), .unset, .unset]) rfl ?_
        show Steps p.tables e below (T121.setTop (mkF m 83 #[.val (.int p1), .val (.int p2), .val (.int p3), .val (.int p4), .val (.int (3 : Int32)), .val (.ref w_IP_ADDRESS), .val (.int (0 : Int32)), .val (.ref wS), .val (.ref b109), .val (.ref b111), .unset, .unset] [])) _
        refine XS.iload X121'.here hx rfl (hb hby at_83) rfl ?_
        show Steps p.tables e below (T121.setTop (mkF m 85 #[.val (.int p1), .val (.int p2), .val (.int p3), .val (.int p4), .val (.int (3 : Int32)), .val (.ref w_IP_ADDRESS), .val (.int (0 : Int32)), .val (.ref wS), .val (.ref b109), .val (.ref b111), .unset, .unset] [(.int (3 : Int32))])) _
        refine XS.ifNo X121'.here hx rfl (hb hby at_85) rfl ((if0 _ _).trans (feq (by decide : ¬ ((3 : Int32) = (0 : Int32)))).1) ?_
        show Steps p.tables e below (T121.setTop (mkF m 88 #[.val (.int p1), .val (.int p2), .val (.int p3), .val (.int p4), .val (.int (3 : Int32)), .val (.ref w_IP_ADDRESS), .val (.int (0 : Int32)), .val (.ref wS), .val (.ref b109), .val (.ref b111), .unset, .unset] [])) _
        refine XS.iload X121'.here hx rfl (hb hby at_88) rfl ?_
        show Steps p.tables e below (T121.setTop (mkF m 90 #[.val (.int p1), .val (.int p2), .val (.int p3), .val (.int p4), .val (.int (3 : Int32)), .val (.ref w_IP_ADDRESS), .val (.int (0 : Int32)), .val (.ref wS), .val (.ref b109), .val (.ref b111), .unset, .unset] [(.int (3 : Int32))])) _
        refine XS.iconst X121'.here hx rfl (hb hby at_90) ?_
        show Steps p.tables e below (T121.setTop (mkF m 91 #[.val (.int p1), .val (.int p2), .val (.int p3), .val (.int p4), .val (.int (3 : Int32)), .val (.ref w_IP_ADDRESS), .val (.int (0 : Int32)), .val (.ref wS), .val (.ref b109), .val (.ref b111), .unset, .unset] [(.int (5 : Int32)), (.int (3 : Int32))])) _
        refine XS.icmpYes X121'.here hx rfl (pc0 := 91) (pc' := 98) rfl (hb hby at_91) rfl (feq (by decide : ¬ ((3 : Int32) = (5 : Int32)))).2 (by decide) (by decide) ?_
        show Steps p.tables e below (T121.setTop (mkF m 98 #[.val (.int p1), .val (.int p2), .val (.int p3), .val (.int p4), .val (.int (3 : Int32)), .val (.ref w_IP_ADDRESS), .val (.int (0 : Int32)), .val (.ref wS), .val (.ref b109), .val (.ref b111), .unset, .unset] [])) _
        refine XS.iconst X121'.here hx rfl (hb hby at_98) ?_
        show Steps p.tables e below (T121.setTop (mkF m 99 #[.val (.int p1), .val (.int p2), .val (.int p3), .val (.int p4), .val (.int (3 : Int32)), .val (.ref w_IP_ADDRESS), .val (.int (0 : Int32)), .val (.ref wS), .val (.ref b109), .val (.ref b111), .unset, .unset] [(.int (0 : Int32))])) _
        refine XS.istore X121'.here hx rfl (hb hby at_99) rfl (l' := #[.val (.int p1), .val (.int p2), .val (.int p3), .val (.int p4), .val (.int (3 : Int32)), .val (.ref w_IP_ADDRESS), .val (.int (0 : Int32)), .val (.ref wS), .val (.ref b109), .val (.ref b111), .val (.int (0 : Int32)), .unset]) rfl ?_
        show Steps p.tables e below (T121.setTop (mkF m 101 #[.val (.int p1), .val (.int p2), .val (.int p3), .val (.int p4), .val (.int (3 : Int32)), .val (.ref w_IP_ADDRESS), .val (.int (0 : Int32)), .val (.ref wS), .val (.ref b109), .val (.ref b111), .val (.int (0 : Int32)), .unset] [])) _
        refine XS.iload X121'.here hx rfl (hb hby at_101) rfl ?_
        show Steps p.tables e below (T121.setTop (mkF m 103 #[.val (.int p1), .val (.int p2), .val (.int p3), .val (.int p4), .val (.int (3 : Int32)), .val (.ref w_IP_ADDRESS), .val (.int (0 : Int32)), .val (.ref wS), .val (.ref b109), .val (.ref b111), .val (.int (0 : Int32)), .unset] [(.int (0 : Int32))])) _
        refine XS.iload X121'.here hx rfl (hb hby at_103) rfl ?_
        show Steps p.tables e below (T121.setTop (mkF m 105 #[.val (.int p1), .val (.int p2), .val (.int p3), .val (.int p4), .val (.int (3 : Int32)), .val (.ref w_IP_ADDRESS), .val (.int (0 : Int32)), .val (.ref wS), .val (.ref b109), .val (.ref b111), .val (.int (0 : Int32)), .unset] [(.int (0 : Int32)), (.int (0 : Int32))])) _
        refine XS.icmpNo X121'.here hx rfl (hb hby at_105) rfl (teq (rfl : (0 : Int32) = (0 : Int32))).2 ?_
        show Steps p.tables e below (T121.setTop (mkF m 108 #[.val (.int p1), .val (.int p2), .val (.int p3), .val (.int p4), .val (.int (3 : Int32)), .val (.ref w_IP_ADDRESS), .val (.int (0 : Int32)), .val (.ref wS), .val (.ref b109), .val (.ref b111), .val (.int (0 : Int32)), .unset] [])) _
        refine XS.iconst X121'.here hx rfl (hb hby at_108) ?_
        show Steps p.tables e below (T121.setTop (mkF m 109 #[.val (.int p1), .val (.int p2), .val (.int p3), .val (.int p4), .val (.int (3 : Int32)), .val (.ref w_IP_ADDRESS), .val (.int (0 : Int32)), .val (.ref wS), .val (.ref b109), .val (.ref b111), .val (.int (0 : Int32)), .unset] [(.int (1 : Int32))])) _
        refine XS.goto X121'.here hx rfl (pc0 := 109) (pc' := 113) rfl (hb hby at_109) (by decide) (by decide) ?_
        show Steps p.tables e below (T121.setTop (mkF m 113 #[.val (.int p1), .val (.int p2), .val (.int p3), .val (.int p4), .val (.int (3 : Int32)), .val (.ref w_IP_ADDRESS), .val (.int (0 : Int32)), .val (.ref wS), .val (.ref b109), .val (.ref b111), .val (.int (0 : Int32)), .unset] [(.int (1 : Int32))])) _
        refine XS.istore X121'.here hx rfl (hb hby at_113) rfl (l' := #[.val (.int p1), .val (.int p2), .val (.int p3), .val (.int p4), .val (.int (3 : Int32)), .val (.ref w_IP_ADDRESS), .val (.int (0 : Int32)), .val (.ref wS), .val (.ref b109), .val (.ref b111), .val (.int (0 : Int32)), .val (.int (1 : Int32))]) rfl ?_
        show Steps p.tables e below (T121.setTop (mkF m 115 #[.val (.int p1), .val (.int p2), .val (.int p3), .val (.int p4), .val (.int (3 : Int32)), .val (.ref w_IP_ADDRESS), .val (.int (0 : Int32)), .val (.ref wS), .val (.ref b109), .val (.ref b111), .val (.int (0 : Int32)), .val (.int (1 : Int32))] [])) _
        refine XS.aload X121'.here hx rfl (hb hby at_115) rfl rfl ?_
        show Steps p.tables e below (T121.setTop (mkF m 117 #[.val (.int p1), .val (.int p2), .val (.int p3), .val (.int p4), .val (.int (3 : Int32)), .val (.ref w_IP_ADDRESS), .val (.int (0 : Int32)), .val (.ref wS), .val (.ref b109), .val (.ref b111), .val (.int (0 : Int32)), .val (.int (1 : Int32))] [(.ref w_IP_ADDRESS)])) _
        refine XS.aload X121'.here hx rfl (hb hby at_117) rfl rfl ?_
        show Steps p.tables e below (T121.setTop (mkF m 119 #[.val (.int p1), .val (.int p2), .val (.int p3), .val (.int p4), .val (.int (3 : Int32)), .val (.ref w_IP_ADDRESS), .val (.int (0 : Int32)), .val (.ref wS), .val (.ref b109), .val (.ref b111), .val (.int (0 : Int32)), .val (.int (1 : Int32))] [(.ref b111), (.ref w_IP_ADDRESS)])) _
        refine st122.trans ?_
        show Steps p.tables e below (T122.setTop (mkF m 122 #[.val (.int p1), .val (.int p2), .val (.int p3), .val (.int p4), .val (.int (3 : Int32)), .val (.ref w_IP_ADDRESS), .val (.int (0 : Int32)), .val (.ref wS), .val (.ref b109), .val (.ref b111), .val (.int (0 : Int32)), .val (.int (1 : Int32))] [(.int (1 : Int32))])) _
        refine XS.iload X122.here hx rfl (hb hby at_122) rfl ?_
        show Steps p.tables e below (T122.setTop (mkF m 124 #[.val (.int p1), .val (.int p2), .val (.int p3), .val (.int p4), .val (.int (3 : Int32)), .val (.ref w_IP_ADDRESS), .val (.int (0 : Int32)), .val (.ref wS), .val (.ref b109), .val (.ref b111), .val (.int (0 : Int32)), .val (.int (1 : Int32))] [(.int (1 : Int32)), (.int (1 : Int32))])) _
        refine XS.icmpNo X122.here hx rfl (hb hby at_124) rfl (teq (rfl : (1 : Int32) = (1 : Int32))).2 ?_
        show Steps p.tables e below (T122.setTop (mkF m 127 #[.val (.int p1), .val (.int p2), .val (.int p3), .val (.int p4), .val (.int (3 : Int32)), .val (.ref w_IP_ADDRESS), .val (.int (0 : Int32)), .val (.ref wS), .val (.ref b109), .val (.ref b111), .val (.int (0 : Int32)), .val (.int (1 : Int32))] [])) _
        refine XS.iconst X122.here hx rfl (hb hby at_127) ?_
        show Steps p.tables e below (T122.setTop (mkF m 128 #[.val (.int p1), .val (.int p2), .val (.int p3), .val (.int p4), .val (.int (3 : Int32)), .val (.ref w_IP_ADDRESS), .val (.int (0 : Int32)), .val (.ref wS), .val (.ref b109), .val (.ref b111), .val (.int (0 : Int32)), .val (.int (1 : Int32))] [(.int (1 : Int32))])) _
        refine XS.goto X122.here hx rfl (pc0 := 128) (pc' := 132) rfl (hb hby at_128) (by decide) (by decide) ?_
        show Steps p.tables e below (T122.setTop (mkF m 132 #[.val (.int p1), .val (.int p2), .val (.int p3), .val (.int p4), .val (.int (3 : Int32)), .val (.ref w_IP_ADDRESS), .val (.int (0 : Int32)), .val (.ref wS), .val (.ref b109), .val (.ref b111), .val (.int (0 : Int32)), .val (.int (1 : Int32))] [(.int (1 : Int32))])) _
        exact retN X122 hx (t := .boolean) Bd.returns (by simp) (hb hby at_132) hr
      · show Q_rm0 Z p1 p2 p3 p4 w_AMOUNT w_CURRENCY w_MERCHANT_ID w_IP_ADDRESS w_DEVICE_ID w_USER_AGE w_USER_REGION wN wS zc h0 n0 _ T122.heap _
        rw [e122]
        exact ⟨rfl, N122⟩
    · obtain ⟨T123, X123, e123, st123⟩ := getS2 X105 hx hZ hown (host := "") (Or.inl (hw _ (List.mem_of_getElem? (i := 8) rfl))) Via.refl e105 S_NUMBER (g := (mkF m 34 #[.val (.int p1), .val (.int p2), .val (.int p3), .val (.int p4), .val (.int (3 : Int32)), .val (.ref w_IP_ADDRESS), .val (.int (1 : Int32)), .unset, .unset, .unset, .unset, .unset] [])) rfl (hb hby at_34)
      obtain ⟨T124, h124, k124, X124, e124, E124, A124, st124⟩ := newP X123 hx hZ (hw _ (List.mem_of_getElem? (i := 11) rfl)) e123 (g := (mkF m 46 #[.val (.int p1), .val (.int p2), .val (.int p3), .val (.int p4), .val (.int (3 : Int32)), .val (.ref w_IP_ADDRESS), .val (.int (1 : Int32)), .val (.ref wN), .unset, .unset, .unset, .unset] [(.int (1 : Int32))])) rfl (hb hby at_46) rfl (by decide) (cap := 1) (by decide) (by decide) (by decide) (by decide)
      obtain ⟨b124, g124⟩ : ∃ z, z = h0.size := ⟨_, rfl⟩
      rw [← g124] at A124 st124
      have V_b124 : Arv Z h124 b124 k124 .char (1 : Int32) [(.int (0 : Int32))] (.int (0 : Int32)) := (Arv.new A124 (by decide)).pad (pad_rep [] (.int (0 : Int32)) 1)
      have g_b124 : n0 ≤ b124 := Nat.le_trans Z0 (Nat.le_of_eq g124.symm)
      have sz_b124 : h0.size ≤ b124 := Nat.le_trans ((Keep.refl h0 [])).1 (Nat.le_of_eq g124.symm)
      have K124 : Keep h0 h124 [] := ((Keep.refl h0 [])).ext E124
      obtain ⟨cl125, Ar125, q125, S125, N125_, H125, G125⟩ := id V_b124
      obtain ⟨T125, h125, X125, e125, W125, st125⟩ := stC X124 hx hZ e124 Ar125 (j := (0 : Int32)) (inb_of S125 ⟨by decide, by decide⟩) (g := (mkF m 56 #[.val (.int p1), .val (.int p2), .val (.int p3), .val (.int p4), .val (.int (3 : Int32)), .val (.ref w_IP_ADDRESS), .val (.int (1 : Int32)), .val (.ref wN), .unset, .unset, .unset, .unset] [(.int ((p3 &&& (255 : Int32)).toUInt32.toUInt16.toUInt32.toInt32)), (.int (0 : Int32)), (.ref b124), (.ref b124)])) rfl rfl (hb hby at_56)
      have V125 := Arv.set Ar125 q125 S125 N125_ H125 G125 (fits_nar_char _) W125 0 rfl (Nat.le_of_ble_eq_true rfl)
      have K125 : Keep h0 h125 [] := (K124).wr W125 (Or.inr sz_b124)
      have N125 := Fr.snoc X125 N105 g_b124
      obtain ⟨T126, h126, X126, e126, E126, A126, D126, -, st126⟩ := newO X125 hx hZ hown (hw _ (List.mem_of_getElem? (i := 12) rfl)) (hw _ (List.mem_of_getElem? (i := 13) rfl)) (hw _ (List.mem_of_getElem? (i := 14) rfl)) e125 (g := (mkF m 59 #[.val (.int p1), .val (.int p2), .val (.int p3), .val (.int p4), .val (.int (3 : Int32)), .val (.ref w_IP_ADDRESS), .val (.int (1 : Int32)), .val (.ref wN), .val (.ref b124), .unset, .unset, .unset] [])) rfl (hb hby at_59) (by decide) (by decide)
      obtain ⟨b126, g126⟩ : ∃ z, z = h125.size := ⟨_, rfl⟩
      rw [← g126] at A126 D126 st126
      have ne_b124_b126 : b124 ≠ b126 := Nat.ne_of_lt (Nat.lt_of_lt_of_le V125.lt (Nat.le_of_eq g126.symm))
      have g_b126 : n0 ≤ b126 := Nat.le_trans (Nat.le_trans Z0 K125.1) (Nat.le_of_eq g126.symm)
      have sz_b126 : h0.size ≤ b126 := Nat.le_trans (K125).1 (Nat.le_of_eq g126.symm)
      have K126 : Keep h0 h126 [] := (K125).ext E126
      have F126_kind : Fld Z h126 b126 "com/example/riscontro/riscontro/rules/Token" "kind" "Lcom/example/riscontro/riscontro/rules/Token$Kind;" .null := D126 (Or.inr (hw _ (List.mem_of_getElem? (i := 62) rfl))) (ty := (.object "com/example/riscontro/riscontro/rules/Token$Kind")) (by decide)
      have F126_text : Fld Z h126 b126 "com/example/riscontro/riscontro/rules/Token" "text" "Ljava/lang/String;" .null := D126 (Or.inr (hw _ (List.mem_of_getElem? (i := 64) rfl))) (ty := (.object "java/lang/String")) (by decide)
      have F126_start : Fld Z h126 b126 "com/example/riscontro/riscontro/rules/Token" "start" "I" (.int (0 : Int32)) := D126 (Or.inr (hw _ (List.mem_of_getElem? (i := 66) rfl))) (ty := .int) (by decide)
      have f127 := (V125.ext E126)
      obtain ⟨T128, h128, X128, e128, E128, A128, D128, -, st128⟩ := newO X126 hx hZ hown (hw _ (List.mem_of_getElem? (i := 15) rfl)) (hw _ (List.mem_of_getElem? (i := 16) rfl)) (hw _ (List.mem_of_getElem? (i := 17) rfl)) e126 (g := (mkF m 65 #[.val (.int p1), .val (.int p2), .val (.int p3), .val (.int p4), .val (.int (3 : Int32)), .val (.ref w_IP_ADDRESS), .val (.int (1 : Int32)), .val (.ref wN), .val (.ref b124), .unset, .unset, .unset] [(.ref wN), (.ref b126), (.ref b126)])) rfl (hb hby at_65) (by decide) (by decide)
      obtain ⟨b128, g128⟩ : ∃ z, z = h126.size := ⟨_, rfl⟩
      rw [← g128] at A128 D128 st128
      have ne_b124_b128 : b124 ≠ b128 := Nat.ne_of_lt (Nat.lt_of_lt_of_le f127.lt (Nat.le_of_eq g128.symm))
      have ne_b126_b128 : b126 ≠ b128 := Nat.ne_of_lt (Nat.lt_of_lt_of_le A126.lt (Nat.le_of_eq g128.symm))
      have g_b128 : n0 ≤ b128 := Nat.le_trans (Nat.le_trans Z0 K126.1) (Nat.le_of_eq g128.symm)
      have sz_b128 : h0.size ≤ b128 := Nat.le_trans (K126).1 (Nat.le_of_eq g128.symm)
      have K128 : Keep h0 h128 [] := (K126).ext E128
      have F128_coder : Fld Z h128 b128 "java/lang/String" "coder" "B" (.int (0 : Int32)) := D128 (Or.inr (hw _ (List.mem_of_getElem? (i := 41) rfl))) (ty := .byte) (by decide)
      have F128_value : Fld Z h128 b128 "java/lang/String" "value" "[B" .null := D128 (Or.inr (hw _ (List.mem_of_getElem? (i := 43) rfl))) (ty := (.array .byte)) (by decide)
      have f129 := (f127.ext E128)
      have V130 : Arv Z h128 b124 _ .char (1 : Int32) (([nar .char ((p3 &&& (255 : Int32)).toUInt32.toUInt16.toUInt32.toInt32)] : List Int32).map Value.int) (.int (0 : Int32)) := f129
      have hws : ∀ d ∈ StrChars.Road.words, d.before a0 Z = true := fun d hd => hw d ((by decide +kernel : ∀ d ∈ StrChars.Road.words, d ∈ tables_1) d hd)
      obtain ⟨_, _, ⟨T131, L131, k131, n131⟩, -, X131, ⟨Lc131, hQ131, l131, y131, z131⟩, st131⟩ := X128.specialBack hx (y := (⟨"java/lang/String", "<init>", "([C)V"⟩ : MethodName)) rfl hown (mvT hZ (hw _ (List.mem_of_getElem? (i := 18) rfl))) (mvT hZ (hw _ (List.mem_of_getElem? (i := 19) rfl))) (mvT hZ (hw _ (List.mem_of_getElem? (i := 20) rfl))) (by decide) (StrChars.Road.backV (W := 4) hZ hws (kI := 4) (hw _ (List.mem_of_getElem? (i := 16) rfl)) (cs := [nar .char ((p3 &&& (255 : Int32)).toUInt32.toUInt16.toUInt32.toInt32)]) (bs := ([nar .char ((p3 &&& (255 : Int32)).toUInt32.toUInt16.toUInt32.toInt32)] : List Int32).map (fun c => c.toInt8.toInt32)) (n := 1) g_b128 (Nat.le_trans Z0 K128.1) A128 F128_value F128_coder V130 (Sta.ext (own_keep_ext K128) S_C) hzc rfl rfl (by decide) (by decide) (own_chrb p3) rfl (by decide) (by decide)) (g := (mkF m 71 #[.val (.int p1), .val (.int p2), .val (.int p3), .val (.int p4), .val (.int (3 : Int32)), .val (.ref w_IP_ADDRESS), .val (.int (1 : Int32)), .val (.ref wN), .val (.ref b124), .unset, .unset, .unset] [(.ref b124), (.ref b128), (.ref b128), (.ref wN), (.ref b126), (.ref b126)])) rfl (by rw [hml]; rfl) (Steps.refl _) (a := b128) (argsL := [(.ref b124)]) (rest := [(.ref b128), (.ref wN), (.ref b126), (.ref b126)]) (lenOf pd_rm0_1 rfl) rfl (by show 2 * 0 + _ ≤ _; exact Nat.le_of_eq rfl) (hb hby at_71) (fun _ _ => ⟨rfl, e128, (by decide : 3 + 1 ≤ _), (by decide : 8 + 1 ≤ _)⟩)
      dsimp only [Pt.U, Pt.locs, Pt.cells, Pt.slots] at X131 l131 y131 z131 st131 hQ131
      subst l131 y131 z131
      obtain ⟨rfl, N131q, K131q, A131q, C131q, t131, k131, g1311, g1312, g1313, F131q, B131q⟩ := hQ131
      have N131 := Fr.app N125 N131q
      have K131 : Keep h0 T131.heap [] := (K128).trans K131q (allS (Or.inr sz_b128) all0)
      have f132 := ((Exa.ext E128 A126).keep K131q)
      have f133 := ((Fld.ext E128 F126_kind).keep K131q (ninS ne_b126_b128 nin0))
      have f134 := ((Fld.ext E128 F126_text).keep K131q (ninS ne_b126_b128 nin0))
      have f135 := ((Fld.ext E128 F126_start).keep K131q (ninS ne_b126_b128 nin0))
      obtain ⟨_, _, ⟨T136, L136, k136, n136⟩, -, X136, hS2_136, hg_136, ⟨Lc136, hQ136, l136, y136, z136⟩, st136⟩ := X131.specialBackS hx (y := (⟨"com/example/riscontro/riscontro/rules/Token", "<init>", "(Lcom/example/riscontro/riscontro/rules/Token$Kind;Ljava/lang/String;I)V"⟩ : MethodName)) rfl hown (mvT hZ (hw _ (List.mem_of_getElem? (i := 44) rfl))) (mvT hZ (hw _ (List.mem_of_getElem? (i := 45) rfl))) (mvT hZ (hw _ (List.mem_of_getElem? (i := 46) rfl))) (by decide) (backOfS (W := 1) (rmT l Z a0 hw [] b126 wN b128 (p4 &&& (2147483647 : Int32)) T131.heap n0 (Nat.le_trans Z0 K131.1) f132 f133 f134 f135 g_b126 (own_start p4)) hZ (hw _ (List.mem_of_getElem? (i := 46) rfl)) (hw _ (List.mem_of_getElem? (i := 14) rfl)) (by decide) (by decide)) (g := (mkF m 78 #[.val (.int p1), .val (.int p2), .val (.int p3), .val (.int p4), .val (.int (3 : Int32)), .val (.ref w_IP_ADDRESS), .val (.int (1 : Int32)), .val (.ref wN), .val (.ref b124), .unset, .unset, .unset] [(.int (p4 &&& (2147483647 : Int32))), (.ref b128), (.ref wN), (.ref b126), (.ref b126)])) rfl (by rw [hml]; rfl) (Steps.refl _) (a := b126) (argsL := [(.ref wN), (.ref b128), (.int (p4 &&& (2147483647 : Int32)))]) (rest := [(.ref b126)]) (lenOf pd_rm0_2 rfl) rfl (by show 2 * 0 + _ ≤ _; exact Nat.le_of_eq rfl) (hb hby at_78) (fun _ _ => ⟨rfl, rfl, (by decide : 4 + 4 ≤ _), (by decide : 9 + 40 ≤ _)⟩)
      dsimp only [Pt.U, Pt.locs, Pt.cells, Pt.slots] at X136 l136 y136 z136 st136 hQ136
      subst l136 y136 z136
      obtain ⟨X136', hS136', hZ136', hown136'⟩ := rebS (s := s) (vm0 := s.vm) hS0 (show _ ≤ T131.heap.size by exact (Nat.le_trans (Nat.le_trans (Nat.le_trans (Nat.le_trans (Nat.le_trans (Nat.zero_le _) (E124).1) (Keep.of_wr W125).1) (E126).1) (E128).1) (K131q).1)) X136 hS2_136 hg_136 hZ hown
      obtain ⟨rfl, N136q, K136q, A136q, G136q⟩ := hQ136
      have N136 := Fr.app N131 N136q
      have K136 : Keep h0 T136.heap [] := (K131).trans K136q (allS (Or.inr sz_b126) all0)
      obtain ⟨cq137, kq137, q137a, q137b, q137c⟩ := isOf hZ136' rfl (Exa.ext (own_keep_ext K136) E_IP_ADDRESS)
      obtain ⟨_, _, ⟨T137, L137, k137, n137⟩, -, X137, ⟨Lc137, hQ137, l137, y137, z137⟩, st137⟩ := X136'.virtualBack hx (y := (⟨"com/example/riscontro/riscontro/rules/Field", "takes", "(Lcom/example/riscontro/riscontro/rules/Token;)Z"⟩ : MethodName)) (z := (⟨"com/example/riscontro/riscontro/rules/Field", "takes", "(Lcom/example/riscontro/riscontro/rules/Token;)Z"⟩ : MethodName)) hown136' (mvT hZ136' (hw _ (List.mem_of_getElem? (i := 67) rfl))) (mvT hZ136' (hw _ (List.mem_of_getElem? (i := 68) rfl))) (notFace_of_selects (args := #[]) (mvT hZ136' (hw _ (List.mem_of_getElem? (i := 70) rfl)))) (mvT hZ136' (hw _ (List.mem_of_getElem? (i := 70) rfl))) (mvT hZ136' (hw _ (List.mem_of_getElem? (i := 69) rfl))) (by decide) (backOf (W := 0) (rmX l Z a0 hw [] w_IP_ADDRESS b126 wS wN (0 : Int32) T136.heap n0 (Nat.le_trans Z0 K136.1) (Fld.ext (own_keep_ext K136) V_IP_ADDRESS) G136q A136q (if_neg hNS)) hZ136' (hw _ (List.mem_of_getElem? (i := 71) rfl)) (hw _ (List.mem_of_getElem? (i := 6) rfl)) (by decide) (by decide)) q137a q137c (g := (mkF m 119 #[.val (.int p1), .val (.int p2), .val (.int p3), .val (.int p4), .val (.int (3 : Int32)), .val (.ref w_IP_ADDRESS), .val (.int (1 : Int32)), .val (.ref wN), .val (.ref b124), .val (.ref b126), .val (.int (0 : Int32)), .val (.int (0 : Int32))] [(.ref b126), (.ref w_IP_ADDRESS)])) rfl (by rw [hml]; rfl) (Steps.refl _) (argsL := [(.ref b126)]) (rest := []) (lenOf pd_rm0_3 rfl) rfl (by show 2 * 0 + _ ≤ _; exact Nat.le_of_eq rfl) (hb hby at_119) (fun _ _ => ⟨rfl, rfl, (by decide : 8 + 0 ≤ _), (by decide : 49 + 0 ≤ _)⟩)
      dsimp only [Pt.U, Pt.locs, Pt.cells, Pt.slots] at X137 l137 y137 z137 st137 hQ137
      subst l137 y137 z137
      obtain ⟨rfl, N137q, e137⟩ := hQ137
      have N137 := Fr.app N136 N137q
      obtain ⟨fs, hr, hrun, hended, hRW⟩ := Jvm.Stand.leaveW (s := s) (vm₁ := T136.vm) X137 hS136' (show _ ≤ T137.heap.size by rw [e137]; exact (Nat.le_refl T136.heap.size)) (v := some (.int (1 : Int32))) (fun h => by rw [Bd.returns] at h; cases h)
      refine ⟨_, _, pre106 _ ?_, hrun, hended, _, _, rfl, ?_, hRW.1, hRW.2.1, hRW.2.2.1, hRW.2.2.2.mono (by decide) (by decide)⟩
      · show Steps p.tables e below (T105.setTop (mkF m 19 #[.val (.int p1), .val (.int p2), .val (.int p3), .val (.int p4), .val (.int (3 : Int32)), .val (.ref w_IP_ADDRESS), .unset, .unset, .unset, .unset, .unset, .unset] [(.int (p2 &&& (1 : Int32)))])) _
        refine XS.ifNo X105.here hx rfl (hb hby at_19) rfl ((if0 _ _).trans (feq hc107).1) ?_
        show Steps p.tables e below (T105.setTop (mkF m 22 #[.val (.int p1), .val (.int p2), .val (.int p3), .val (.int p4), .val (.int (3 : Int32)), .val (.ref w_IP_ADDRESS), .unset, .unset, .unset, .unset, .unset, .unset] [])) _
        refine XS.iconst X105.here hx rfl (hb hby at_22) ?_
        show Steps p.tables e below (T105.setTop (mkF m 23 #[.val (.int p1), .val (.int p2), .val (.int p3), .val (.int p4), .val (.int (3 : Int32)), .val (.ref w_IP_ADDRESS), .unset, .unset, .unset, .unset, .unset, .unset] [(.int (1 : Int32))])) _
        refine XS.goto X105.here hx rfl (pc0 := 23) (pc' := 27) rfl (hb hby at_23) (by decide) (by decide) ?_
        show Steps p.tables e below (T105.setTop (mkF m 27 #[.val (.int p1), .val (.int p2), .val (.int p3), .val (.int p4), .val (.int (3 : Int32)), .val (.ref w_IP_ADDRESS), .unset, .unset, .unset, .unset, .unset, .unset] [(.int (1 : Int32))])) _
        refine XS.istore X105.here hx rfl (hb hby at_27) rfl (l' := #[.val (.int p1), .val (.int p2), .val (.int p3), .val (.int p4), .val (.int (3 : Int32)), .val (.ref w_IP_ADDRESS), .val (.int (1 : Int32)), .unset, .unset, .unset, .unset, .unset]) rfl ?_
        show Steps p.tables e below (T105.setTop (mkF m 29 #[.val (.int p1), .val (.int p2), .val (.int p3), .val (.int p4), .val (.int (3 : Int32)), .val (.ref w_IP_ADDRESS), .val (.int (1 : Int32)), .unset, .unset, .unset, .unset, .unset] [])) _
        refine XS.iload X105.here hx rfl (hb hby at_29) rfl ?_
        show Steps p.tables e below (T105.setTop (mkF m 31 #[.val (.int p1), .val (.int p2), .val (.int p3), .val (.int p4), .val (.int (3 : Int32)), .val (.ref w_IP_ADDRESS), .val (.int (1 : Int32)), .unset, .unset, .unset, .unset, .unset] [(.int (1 : Int32))])) _
        refine XS.ifNo X105.here hx rfl (hb hby at_31) rfl ((if0 _ _).trans (feq (by decide : ¬ ((1 : Int32) = (0 : Int32)))).1) ?_
        show Steps p.tables e below (T105.setTop (mkF m 34 #[.val (.int p1), .val (.int p2), .val (.int p3), .val (.int p4), .val (.int (3 : Int32)), .val (.ref w_IP_ADDRESS), .val (.int (1 : Int32)), .unset, .unset, .unset, .unset, .unset] [])) _
        refine st123 _ ?_
        show Steps p.tables e below (T123.setTop (mkF m 37 #[.val (.int p1), .val (.int p2), .val (.int p3), .val (.int p4), .val (.int (3 : Int32)), .val (.ref w_IP_ADDRESS), .val (.int (1 : Int32)), .unset, .unset, .unset, .unset, .unset] [(.ref wN)])) _
        refine XS.goto X123.here hx rfl (pc0 := 37) (pc' := 43) rfl (hb hby at_37) (by decide) (by decide) ?_
        show Steps p.tables e below (T123.setTop (mkF m 43 #[.val (.int p1), .val (.int p2), .val (.int p3), .val (.int p4), .val (.int (3 : Int32)), .val (.ref w_IP_ADDRESS), .val (.int (1 : Int32)), .unset, .unset, .unset, .unset, .unset] [(.ref wN)])) _
        refine XS.astore X123.here hx rfl (hb hby at_43) rfl rfl (l' := #[.val (.int p1), .val (.int p2), .val (.int p3), .val (.int p4), .val (.int (3 : Int32)), .val (.ref w_IP_ADDRESS), .val (.int (1 : Int32)), .val (.ref wN), .unset, .unset, .unset, .unset]) rfl ?_
        show Steps p.tables e below (T123.setTop (mkF m 45 #[.val (.int p1), .val (.int p2), .val (.int p3), .val (.int p4), .val (.int (3 : Int32)), .val (.ref w_IP_ADDRESS), .val (.int (1 : Int32)), .val (.ref wN), .unset, .unset, .unset, .unset] [])) _
        refine XS.iconst X123.here hx rfl (hb hby at_45) ?_
        show Steps p.tables e below (T123.setTop (mkF m 46 #[.val (.int p1), .val (.int p2), .val (.int p3), .val (.int p4), .val (.int (3 : Int32)), .val (.ref w_IP_ADDRESS), .val (.int (1 : Int32)), .val (.ref wN), .unset, .unset, .unset, .unset] [(.int (1 : Int32))])) _
        refine st124 _ ?_
        show Steps p.tables e below (T124.setTop (mkF m 48 #[.val (.int p1), .val (.int p2), .val (.int p3), .val (.int p4), .val (.int (3 : Int32)), .val (.ref w_IP_ADDRESS), .val (.int (1 : Int32)), .val (.ref wN), .unset, .unset, .unset, .unset] [(.ref b124)])) _
        refine XS.dup X124.here hx rfl (hb hby at_48) rfl rfl ?_
        show Steps p.tables e below (T124.setTop (mkF m 49 #[.val (.int p1), .val (.int p2), .val (.int p3), .val (.int p4), .val (.int (3 : Int32)), .val (.ref w_IP_ADDRESS), .val (.int (1 : Int32)), .val (.ref wN), .unset, .unset, .unset, .unset] [(.ref b124), (.ref b124)])) _
        refine XS.iconst X124.here hx rfl (hb hby at_49) ?_
        show Steps p.tables e below (T124.setTop (mkF m 50 #[.val (.int p1), .val (.int p2), .val (.int p3), .val (.int p4), .val (.int (3 : Int32)), .val (.ref w_IP_ADDRESS), .val (.int (1 : Int32)), .val (.ref wN), .unset, .unset, .unset, .unset] [(.int (0 : Int32)), (.ref b124), (.ref b124)])) _
        refine XS.iloadN X124.here hx rfl (hb hby at_50) rfl ?_
        show Steps p.tables e below (T124.setTop (mkF m 51 #[.val (.int p1), .val (.int p2), .val (.int p3), .val (.int p4), .val (.int (3 : Int32)), .val (.ref w_IP_ADDRESS), .val (.int (1 : Int32)), .val (.ref wN), .unset, .unset, .unset, .unset] [(.int p3), (.int (0 : Int32)), (.ref b124), (.ref b124)])) _
        refine XS.sipush X124.here hx rfl (hb hby at_51) ?_
        show Steps p.tables e below (T124.setTop (mkF m 54 #[.val (.int p1), .val (.int p2), .val (.int p3), .val (.int p4), .val (.int (3 : Int32)), .val (.ref w_IP_ADDRESS), .val (.int (1 : Int32)), .val (.ref wN), .unset, .unset, .unset, .unset] [(.int (255 : Int32)), (.int p3), (.int (0 : Int32)), (.ref b124), (.ref b124)])) _
        refine XS.iand X124.here hx rfl (hb hby at_54) rfl ?_
        show Steps p.tables e below (T124.setTop (mkF m 55 #[.val (.int p1), .val (.int p2), .val (.int p3), .val (.int p4), .val (.int (3 : Int32)), .val (.ref w_IP_ADDRESS), .val (.int (1 : Int32)), .val (.ref wN), .unset, .unset, .unset, .unset] [(.int (p3 &&& (255 : Int32))), (.int (0 : Int32)), (.ref b124), (.ref b124)])) _
        refine XS.i2c X124.here hx rfl (hb hby at_55) rfl ?_
        show Steps p.tables e below (T124.setTop (mkF m 56 #[.val (.int p1), .val (.int p2), .val (.int p3), .val (.int p4), .val (.int (3 : Int32)), .val (.ref w_IP_ADDRESS), .val (.int (1 : Int32)), .val (.ref wN), .unset, .unset, .unset, .unset] [(.int ((p3 &&& (255 : Int32)).toUInt32.toUInt16.toUInt32.toInt32)), (.int (0 : Int32)), (.ref b124), (.ref b124)])) _
        refine st125 _ ?_
        show Steps p.tables e below (T125.setTop (mkF m 57 #[.val (.int p1), .val (.int p2), .val (.int p3), .val (.int p4), .val (.int (3 : Int32)), .val (.ref w_IP_ADDRESS), .val (.int (1 : Int32)), .val (.ref wN), .unset, .unset, .unset, .unset] [(.ref b124)])) _
        refine XS.astore X125.here hx rfl (hb hby at_57) rfl rfl (l' := #[.val (.int p1), .val (.int p2), .val (.int p3), .val (.int p4), .val (.int (3 : Int32)), .val (.ref w_IP_ADDRESS), .val (.int (1 : Int32)), .val (.ref wN), .val (.ref b124), .unset, .unset, .unset]) rfl ?_
        show Steps p.tables e below (T125.setTop (mkF m 59 #[.val (.int p1), .val (.int p2), .val (.int p3), .val (.int p4), .val (.int (3 : Int32)), .val (.ref w_IP_ADDRESS), .val (.int (1 : Int32)), .val (.ref wN), .val (.ref b124), .unset, .unset, .unset] [])) _
        refine st126 _ ?_
        show Steps p.tables e below (T126.setTop (mkF m 62 #[.val (.int p1), .val (.int p2), .val (.int p3), .val (.int p4), .val (.int (3 : Int32)), .val (.ref w_IP_ADDRESS), .val (.int (1 : Int32)), .val (.ref wN), .val (.ref b124), .unset, .unset, .unset] [(.ref b126)])) _
        refine XS.dup X126.here hx rfl (hb hby at_62) rfl rfl ?_
        show Steps p.tables e below (T126.setTop (mkF m 63 #[.val (.int p1), .val (.int p2), .val (.int p3), .val (.int p4), .val (.int (3 : Int32)), .val (.ref w_IP_ADDRESS), .val (.int (1 : Int32)), .val (.ref wN), .val (.ref b124), .unset, .unset, .unset] [(.ref b126), (.ref b126)])) _
        refine XS.aload X126.here hx rfl (hb hby at_63) rfl rfl ?_
        show Steps p.tables e below (T126.setTop (mkF m 65 #[.val (.int p1), .val (.int p2), .val (.int p3), .val (.int p4), .val (.int (3 : Int32)), .val (.ref w_IP_ADDRESS), .val (.int (1 : Int32)), .val (.ref wN), .val (.ref b124), .unset, .unset, .unset] [(.ref wN), (.ref b126), (.ref b126)])) _
        refine st128 _ ?_
        show Steps p.tables e below (T128.setTop (mkF m 68 #[.val (.int p1), .val (.int p2), .val (.int p3), .val (.int p4), .val (.int (3 : Int32)), .val (.ref w_IP_ADDRESS), .val (.int (1 : Int32)), .val (.ref wN), .val (.ref b124), .unset, .unset, .unset] [(.ref b128), (.ref wN), (.ref b126), (.ref b126)])) _
        refine XS.dup X128.here hx rfl (hb hby at_68) rfl rfl ?_
        show Steps p.tables e below (T128.setTop (mkF m 69 #[.val (.int p1), .val (.int p2), .val (.int p3), .val (.int p4), .val (.int (3 : Int32)), .val (.ref w_IP_ADDRESS), .val (.int (1 : Int32)), .val (.ref wN), .val (.ref b124), .unset, .unset, .unset] [(.ref b128), (.ref b128), (.ref wN), (.ref b126), (.ref b126)])) _
        refine XS.aload X128.here hx rfl (hb hby at_69) rfl rfl ?_
        show Steps p.tables e below (T128.setTop (mkF m 71 #[.val (.int p1), .val (.int p2), .val (.int p3), .val (.int p4), .val (.int (3 : Int32)), .val (.ref w_IP_ADDRESS), .val (.int (1 : Int32)), .val (.ref wN), .val (.ref b124), .unset, .unset, .unset] [(.ref b124), (.ref b128), (.ref b128), (.ref wN), (.ref b126), (.ref b126)])) _
        refine st131.trans ?_
        show Steps p.tables e below (T131.setTop (mkF m 74 #[.val (.int p1), .val (.int p2), .val (.int p3), .val (.int p4), .val (.int (3 : Int32)), .val (.ref w_IP_ADDRESS), .val (.int (1 : Int32)), .val (.ref wN), .val (.ref b124), .unset, .unset, .unset] [(.ref b128), (.ref wN), (.ref b126), (.ref b126)])) _
        refine XS.iloadN X131.here hx rfl (hb hby at_74) rfl ?_
        show Steps p.tables e below (T131.setTop (mkF m 75 #[.val (.int p1), .val (.int p2), .val (.int p3), .val (.int p4), .val (.int (3 : Int32)), .val (.ref w_IP_ADDRESS), .val (.int (1 : Int32)), .val (.ref wN), .val (.ref b124), .unset, .unset, .unset] [(.int p4), (.ref b128), (.ref wN), (.ref b126), (.ref b126)])) _
        refine X131.ldcInt hx hown (mvT hZ (hw _ (List.mem_of_getElem? (i := 0) rfl))) (g := (mkF m 75 #[.val (.int p1), .val (.int p2), .val (.int p3), .val (.int p4), .val (.int (3 : Int32)), .val (.ref w_IP_ADDRESS), .val (.int (1 : Int32)), .val (.ref wN), .val (.ref b124), .unset, .unset, .unset] [(.int p4), (.ref b128), (.ref wN), (.ref b126), (.ref b126)])) rfl (hb hby at_75) _ ?_
        show Steps p.tables e below (T131.setTop (mkF m 77 #[.val (.int p1), .val (.int p2), .val (.int p3), .val (.int p4), .val (.int (3 : Int32)), .val (.ref w_IP_ADDRESS), .val (.int (1 : Int32)), .val (.ref wN), .val (.ref b124), .unset, .unset, .unset] [(.int (2147483647 : Int32)), (.int p4), (.ref b128), (.ref wN), (.ref b126), (.ref b126)])) _
        refine XS.iand X131.here hx rfl (hb hby at_77) rfl ?_
        show Steps p.tables e below (T131.setTop (mkF m 78 #[.val (.int p1), .val (.int p2), .val (.int p3), .val (.int p4), .val (.int (3 : Int32)), .val (.ref w_IP_ADDRESS), .val (.int (1 : Int32)), .val (.ref wN), .val (.ref b124), .unset, .unset, .unset] [(.int (p4 &&& (2147483647 : Int32))), (.ref b128), (.ref wN), (.ref b126), (.ref b126)])) _
        refine st136.trans ?_
        show Steps p.tables e below (T136.setTop (mkF m 81 #[.val (.int p1), .val (.int p2), .val (.int p3), .val (.int p4), .val (.int (3 : Int32)), .val (.ref w_IP_ADDRESS), .val (.int (1 : Int32)), .val (.ref wN), .val (.ref b124), .unset, .unset, .unset] [(.ref b126)])) _
        refine XS.astore X136'.here hx rfl (hb hby at_81) rfl rfl (l' := #[.val (.int p1), .val (.int p2), .val (.int p3), .val (.int p4), .val (.int (3 : Int32)), .val (.ref w_IP_ADDRESS), .val (.int (1 : Int32)), .val (.ref wN), .val (.ref b124), .val (.ref b126), .unset, .unset]) rfl ?_
        show Steps p.tables e below (T136.setTop (mkF m 83 #[.val (.int p1), .val (.int p2), .val (.int p3), .val (.int p4), .val (.int (3 : Int32)), .val (.ref w_IP_ADDRESS), .val (.int (1 : Int32)), .val (.ref wN), .val (.ref b124), .val (.ref b126), .unset, .unset] [])) _
        refine XS.iload X136'.here hx rfl (hb hby at_83) rfl ?_
        show Steps p.tables e below (T136.setTop (mkF m 85 #[.val (.int p1), .val (.int p2), .val (.int p3), .val (.int p4), .val (.int (3 : Int32)), .val (.ref w_IP_ADDRESS), .val (.int (1 : Int32)), .val (.ref wN), .val (.ref b124), .val (.ref b126), .unset, .unset] [(.int (3 : Int32))])) _
        refine XS.ifNo X136'.here hx rfl (hb hby at_85) rfl ((if0 _ _).trans (feq (by decide : ¬ ((3 : Int32) = (0 : Int32)))).1) ?_
        show Steps p.tables e below (T136.setTop (mkF m 88 #[.val (.int p1), .val (.int p2), .val (.int p3), .val (.int p4), .val (.int (3 : Int32)), .val (.ref w_IP_ADDRESS), .val (.int (1 : Int32)), .val (.ref wN), .val (.ref b124), .val (.ref b126), .unset, .unset] [])) _
        refine XS.iload X136'.here hx rfl (hb hby at_88) rfl ?_
        show Steps p.tables e below (T136.setTop (mkF m 90 #[.val (.int p1), .val (.int p2), .val (.int p3), .val (.int p4), .val (.int (3 : Int32)), .val (.ref w_IP_ADDRESS), .val (.int (1 : Int32)), .val (.ref wN), .val (.ref b124), .val (.ref b126), .unset, .unset] [(.int (3 : Int32))])) _
        refine XS.iconst X136'.here hx rfl (hb hby at_90) ?_
        show Steps p.tables e below (T136.setTop (mkF m 91 #[.val (.int p1), .val (.int p2), .val (.int p3), .val (.int p4), .val (.int (3 : Int32)), .val (.ref w_IP_ADDRESS), .val (.int (1 : Int32)), .val (.ref wN), .val (.ref b124), .val (.ref b126), .unset, .unset] [(.int (5 : Int32)), (.int (3 : Int32))])) _
        refine XS.icmpYes X136'.here hx rfl (pc0 := 91) (pc' := 98) rfl (hb hby at_91) rfl (feq (by decide : ¬ ((3 : Int32) = (5 : Int32)))).2 (by decide) (by decide) ?_
        show Steps p.tables e below (T136.setTop (mkF m 98 #[.val (.int p1), .val (.int p2), .val (.int p3), .val (.int p4), .val (.int (3 : Int32)), .val (.ref w_IP_ADDRESS), .val (.int (1 : Int32)), .val (.ref wN), .val (.ref b124), .val (.ref b126), .unset, .unset] [])) _
        refine XS.iconst X136'.here hx rfl (hb hby at_98) ?_
        show Steps p.tables e below (T136.setTop (mkF m 99 #[.val (.int p1), .val (.int p2), .val (.int p3), .val (.int p4), .val (.int (3 : Int32)), .val (.ref w_IP_ADDRESS), .val (.int (1 : Int32)), .val (.ref wN), .val (.ref b124), .val (.ref b126), .unset, .unset] [(.int (0 : Int32))])) _
        refine XS.istore X136'.here hx rfl (hb hby at_99) rfl (l' := #[.val (.int p1), .val (.int p2), .val (.int p3), .val (.int p4), .val (.int (3 : Int32)), .val (.ref w_IP_ADDRESS), .val (.int (1 : Int32)), .val (.ref wN), .val (.ref b124), .val (.ref b126), .val (.int (0 : Int32)), .unset]) rfl ?_
        show Steps p.tables e below (T136.setTop (mkF m 101 #[.val (.int p1), .val (.int p2), .val (.int p3), .val (.int p4), .val (.int (3 : Int32)), .val (.ref w_IP_ADDRESS), .val (.int (1 : Int32)), .val (.ref wN), .val (.ref b124), .val (.ref b126), .val (.int (0 : Int32)), .unset] [])) _
        refine XS.iload X136'.here hx rfl (hb hby at_101) rfl ?_
        show Steps p.tables e below (T136.setTop (mkF m 103 #[.val (.int p1), .val (.int p2), .val (.int p3), .val (.int p4), .val (.int (3 : Int32)), .val (.ref w_IP_ADDRESS), .val (.int (1 : Int32)), .val (.ref wN), .val (.ref b124), .val (.ref b126), .val (.int (0 : Int32)), .unset] [(.int (0 : Int32))])) _
        refine XS.iload X136'.here hx rfl (hb hby at_103) rfl ?_
        show Steps p.tables e below (T136.setTop (mkF m 105 #[.val (.int p1), .val (.int p2), .val (.int p3), .val (.int p4), .val (.int (3 : Int32)), .val (.ref w_IP_ADDRESS), .val (.int (1 : Int32)), .val (.ref wN), .val (.ref b124), .val (.ref b126), .val (.int (0 : Int32)), .unset] [(.int (1 : Int32)), (.int (0 : Int32))])) _
        refine XS.icmpYes X136'.here hx rfl (pc0 := 105) (pc' := 112) rfl (hb hby at_105) rfl (feq (by decide : ¬ ((0 : Int32) = (1 : Int32)))).2 (by decide) (by decide) ?_
        show Steps p.tables e below (T136.setTop (mkF m 112 #[.val (.int p1), .val (.int p2), .val (.int p3), .val (.int p4), .val (.int (3 : Int32)), .val (.ref w_IP_ADDRESS), .val (.int (1 : Int32)), .val (.ref wN), .val (.ref b124), .val (.ref b126), .val (.int (0 : Int32)), .unset] [])) _
        refine XS.iconst X136'.here hx rfl (hb hby at_112) ?_
        show Steps p.tables e below (T136.setTop (mkF m 113 #[.val (.int p1), .val (.int p2), .val (.int p3), .val (.int p4), .val (.int (3 : Int32)), .val (.ref w_IP_ADDRESS), .val (.int (1 : Int32)), .val (.ref wN), .val (.ref b124), .val (.ref b126), .val (.int (0 : Int32)), .unset] [(.int (0 : Int32))])) _
        refine XS.istore X136'.here hx rfl (hb hby at_113) rfl (l' := #[.val (.int p1), .val (.int p2), .val (.int p3), .val (.int p4), .val (.int (3 : Int32)), .val (.ref w_IP_ADDRESS), .val (.int (1 : Int32)), .val (.ref wN), .val (.ref b124), .val (.ref b126), .val (.int (0 : Int32)), .val (.int (0 : Int32))]) rfl ?_
        show Steps p.tables e below (T136.setTop (mkF m 115 #[.val (.int p1), .val (.int p2), .val (.int p3), .val (.int p4), .val (.int (3 : Int32)), .val (.ref w_IP_ADDRESS), .val (.int (1 : Int32)), .val (.ref wN), .val (.ref b124), .val (.ref b126), .val (.int (0 : Int32)), .val (.int (0 : Int32))] [])) _
        refine XS.aload X136'.here hx rfl (hb hby at_115) rfl rfl ?_
        show Steps p.tables e below (T136.setTop (mkF m 117 #[.val (.int p1), .val (.int p2), .val (.int p3), .val (.int p4), .val (.int (3 : Int32)), .val (.ref w_IP_ADDRESS), .val (.int (1 : Int32)), .val (.ref wN), .val (.ref b124), .val (.ref b126), .val (.int (0 : Int32)), .val (.int (0 : Int32))] [(.ref w_IP_ADDRESS)])) _
        refine XS.aload X136'.here hx rfl (hb hby at_117) rfl rfl ?_
        show Steps p.tables e below (T136.setTop (mkF m 119 #[.val (.int p1), .val (.int p2), .val (.int p3), .val (.int p4), .val (.int (3 : Int32)), .val (.ref w_IP_ADDRESS), .val (.int (1 : Int32)), .val (.ref wN), .val (.ref b124), .val (.ref b126), .val (.int (0 : Int32)), .val (.int (0 : Int32))] [(.ref b126), (.ref w_IP_ADDRESS)])) _
        refine st137.trans ?_
        show Steps p.tables e below (T137.setTop (mkF m 122 #[.val (.int p1), .val (.int p2), .val (.int p3), .val (.int p4), .val (.int (3 : Int32)), .val (.ref w_IP_ADDRESS), .val (.int (1 : Int32)), .val (.ref wN), .val (.ref b124), .val (.ref b126), .val (.int (0 : Int32)), .val (.int (0 : Int32))] [(.int (0 : Int32))])) _
        refine XS.iload X137.here hx rfl (hb hby at_122) rfl ?_
        show Steps p.tables e below (T137.setTop (mkF m 124 #[.val (.int p1), .val (.int p2), .val (.int p3), .val (.int p4), .val (.int (3 : Int32)), .val (.ref w_IP_ADDRESS), .val (.int (1 : Int32)), .val (.ref wN), .val (.ref b124), .val (.ref b126), .val (.int (0 : Int32)), .val (.int (0 : Int32))] [(.int (0 : Int32)), (.int (0 : Int32))])) _
        refine XS.icmpNo X137.here hx rfl (hb hby at_124) rfl (teq (rfl : (0 : Int32) = (0 : Int32))).2 ?_
        show Steps p.tables e below (T137.setTop (mkF m 127 #[.val (.int p1), .val (.int p2), .val (.int p3), .val (.int p4), .val (.int (3 : Int32)), .val (.ref w_IP_ADDRESS), .val (.int (1 : Int32)), .val (.ref wN), .val (.ref b124), .val (.ref b126), .val (.int (0 : Int32)), .val (.int (0 : Int32))] [])) _
        refine XS.iconst X137.here hx rfl (hb hby at_127) ?_
        show Steps p.tables e below (T137.setTop (mkF m 128 #[.val (.int p1), .val (.int p2), .val (.int p3), .val (.int p4), .val (.int (3 : Int32)), .val (.ref w_IP_ADDRESS), .val (.int (1 : Int32)), .val (.ref wN), .val (.ref b124), .val (.ref b126), .val (.int (0 : Int32)), .val (.int (0 : Int32))] [(.int (1 : Int32))])) _
        refine XS.goto X137.here hx rfl (pc0 := 128) (pc' := 132) rfl (hb hby at_128) (by decide) (by decide) ?_
        show Steps p.tables e below (T137.setTop (mkF m 132 #[.val (.int p1), .val (.int p2), .val (.int p3), .val (.int p4), .val (.int (3 : Int32)), .val (.ref w_IP_ADDRESS), .val (.int (1 : Int32)), .val (.ref wN), .val (.ref b124), .val (.ref b126), .val (.int (0 : Int32)), .val (.int (0 : Int32))] [(.int (1 : Int32))])) _
        exact retN X137 hx (t := .boolean) Bd.returns (by simp) (hb hby at_132) hr
      · show Q_rm0 Z p1 p2 p3 p4 w_AMOUNT w_CURRENCY w_MERCHANT_ID w_IP_ADDRESS w_DEVICE_ID w_USER_AGE w_USER_REGION wN wS zc h0 n0 _ T137.heap _
        rw [e137]
        exact ⟨rfl, N137⟩
  · have pre138 : ∀ t, Steps p.tables e below (s₁.setTop (mkF m 7 #[.val (.int p1), .val (.int p2), .val (.int p3), .val (.int p4), .unset, .unset, .unset, .unset, .unset, .unset, .unset, .unset] [(.int (4 : Int32))])) t → Steps p.tables e below (s₁.setTop (entryFrame m #[(.int p1), (.int p2), (.int p3), (.int p4)] maxLocals)) t := fun t k => pre1 t (by rw [hk]; exact k)
    obtain ⟨_, _, ⟨T139, L139, k139, n139⟩, -, X139, ⟨Lc139, hQ139, l139, y139, z139⟩, st139⟩ := Jvm.LawKit.callS X0 hx (y := (⟨"com/example/riscontro/riscontro/rules/FieldTakesPinLaw", "pick", "(I)Lcom/example/riscontro/riscontro/rules/Field;"⟩ : MethodName)) hown (mvT hZ (hw _ (List.mem_of_getElem? (i := 1) rfl))) (mvT hZ (hw _ (List.mem_of_getElem? (i := 2) rfl))) (mvT hZ (hw _ (List.mem_of_getElem? (i := 3) rfl))) (mvT hZ (hw _ (List.mem_of_getElem? (i := 4) rfl))) (by decide) (backOf (W := 0) (rm1 l Z a0 hw [] (4 : Int32) w_AMOUNT w_CURRENCY w_MERCHANT_ID w_IP_ADDRESS w_DEVICE_ID w_USER_AGE w_USER_REGION w_DEVICE_ID h0 n0 Z0 S_AMOUNT S_CURRENCY S_MERCHANT_ID S_IP_ADDRESS S_DEVICE_ID S_USER_AGE S_USER_REGION rfl) hZ (hw _ (List.mem_of_getElem? (i := 4) rfl)) (hw _ (List.mem_of_getElem? (i := 3) rfl)) (by decide) (by decide)) (g := (mkF m 11 #[.val (.int p1), .val (.int p2), .val (.int p3), .val (.int p4), .val (.int (4 : Int32)), .unset, .unset, .unset, .unset, .unset, .unset, .unset] [(.int (4 : Int32))])) rfl (by rw [hml]; rfl) (argsL := [(.int (4 : Int32))]) (rest := []) (lenOf pd_rm0_0 rfl) rfl (by show 2 * 0 + _ ≤ _; exact Nat.le_of_eq rfl) (hb hby at_11) (fun _ _ => ⟨rfl, e0, (by decide : 0 + 0 ≤ _), (by decide : 0 + 0 ≤ _)⟩)
    dsimp only [Pt.U, Pt.locs, Pt.cells, Pt.slots] at X139 l139 y139 z139 st139 hQ139
    subst l139 y139 z139
    obtain ⟨rfl, N139q, e139⟩ := hQ139
    have N139 := Fr.app N0 N139q
    have pre140 : ∀ t, Steps p.tables e below (T139.setTop (mkF m 19 #[.val (.int p1), .val (.int p2), .val (.int p3), .val (.int p4), .val (.int (4 : Int32)), .val (.ref w_DEVICE_ID), .unset, .unset, .unset, .unset, .unset, .unset] [(.int (p2 &&& (1 : Int32)))])) t → Steps p.tables e below (s₁.setTop (entryFrame m #[(.int p1), (.int p2), (.int p3), (.int p4)] maxLocals)) t := fun t k => pre138 t (by
        show Steps p.tables e below (s₁.setTop (mkF m 7 #[.val (.int p1), .val (.int p2), .val (.int p3), .val (.int p4), .unset, .unset, .unset, .unset, .unset, .unset, .unset, .unset] [(.int (4 : Int32))])) _
        refine XS.istore X0.here hx rfl (hb hby at_7) rfl (l' := #[.val (.int p1), .val (.int p2), .val (.int p3), .val (.int p4), .val (.int (4 : Int32)), .unset, .unset, .unset, .unset, .unset, .unset, .unset]) rfl ?_
        show Steps p.tables e below (s₁.setTop (mkF m 9 #[.val (.int p1), .val (.int p2), .val (.int p3), .val (.int p4), .val (.int (4 : Int32)), .unset, .unset, .unset, .unset, .unset, .unset, .unset] [])) _
        refine XS.iload X0.here hx rfl (hb hby at_9) rfl ?_
        show Steps p.tables e below (s₁.setTop (mkF m 11 #[.val (.int p1), .val (.int p2), .val (.int p3), .val (.int p4), .val (.int (4 : Int32)), .unset, .unset, .unset, .unset, .unset, .unset, .unset] [(.int (4 : Int32))])) _
        refine st139 _ ?_
        show Steps p.tables e below (T139.setTop (mkF m 14 #[.val (.int p1), .val (.int p2), .val (.int p3), .val (.int p4), .val (.int (4 : Int32)), .unset, .unset, .unset, .unset, .unset, .unset, .unset] [(.ref w_DEVICE_ID)])) _
        refine XS.astore X139.here hx rfl (hb hby at_14) rfl rfl (l' := #[.val (.int p1), .val (.int p2), .val (.int p3), .val (.int p4), .val (.int (4 : Int32)), .val (.ref w_DEVICE_ID), .unset, .unset, .unset, .unset, .unset, .unset]) rfl ?_
        show Steps p.tables e below (T139.setTop (mkF m 16 #[.val (.int p1), .val (.int p2), .val (.int p3), .val (.int p4), .val (.int (4 : Int32)), .val (.ref w_DEVICE_ID), .unset, .unset, .unset, .unset, .unset, .unset] [])) _
        refine XS.iloadN X139.here hx rfl (hb hby at_16) rfl ?_
        show Steps p.tables e below (T139.setTop (mkF m 17 #[.val (.int p1), .val (.int p2), .val (.int p3), .val (.int p4), .val (.int (4 : Int32)), .val (.ref w_DEVICE_ID), .unset, .unset, .unset, .unset, .unset, .unset] [(.int p2)])) _
        refine XS.iconst X139.here hx rfl (hb hby at_17) ?_
        show Steps p.tables e below (T139.setTop (mkF m 18 #[.val (.int p1), .val (.int p2), .val (.int p3), .val (.int p4), .val (.int (4 : Int32)), .val (.ref w_DEVICE_ID), .unset, .unset, .unset, .unset, .unset, .unset] [(.int (1 : Int32)), (.int p2)])) _
        refine XS.iand X139.here hx rfl (hb hby at_18) rfl ?_
        exact k)
    by_cases hc141 : (p2 &&& (1 : Int32)) = (0 : Int32)
    · obtain ⟨T142, X142, e142, st142⟩ := getS2 X139 hx hZ hown (host := "") (Or.inl (hw _ (List.mem_of_getElem? (i := 84) rfl))) Via.refl e139 S_STRING (g := (mkF m 40 #[.val (.int p1), .val (.int p2), .val (.int p3), .val (.int p4), .val (.int (4 : Int32)), .val (.ref w_DEVICE_ID), .val (.int (0 : Int32)), .unset, .unset, .unset, .unset, .unset] [])) rfl (hb hby at_40)
      obtain ⟨T143, h143, k143, X143, e143, E143, A143, st143⟩ := newP X142 hx hZ (hw _ (List.mem_of_getElem? (i := 11) rfl)) e142 (g := (mkF m 46 #[.val (.int p1), .val (.int p2), .val (.int p3), .val (.int p4), .val (.int (4 : Int32)), .val (.ref w_DEVICE_ID), .val (.int (0 : Int32)), .val (.ref wS), .unset, .unset, .unset, .unset] [(.int (1 : Int32))])) rfl (hb hby at_46) rfl (by decide) (cap := 1) (by decide) (by decide) (by decide) (by decide)
      obtain ⟨b143, g143⟩ : ∃ z, z = h0.size := ⟨_, rfl⟩
      rw [← g143] at A143 st143
      have V_b143 : Arv Z h143 b143 k143 .char (1 : Int32) [(.int (0 : Int32))] (.int (0 : Int32)) := (Arv.new A143 (by decide)).pad (pad_rep [] (.int (0 : Int32)) 1)
      have g_b143 : n0 ≤ b143 := Nat.le_trans Z0 (Nat.le_of_eq g143.symm)
      have sz_b143 : h0.size ≤ b143 := Nat.le_trans ((Keep.refl h0 [])).1 (Nat.le_of_eq g143.symm)
      have K143 : Keep h0 h143 [] := ((Keep.refl h0 [])).ext E143
      obtain ⟨cl144, Ar144, q144, S144, N144_, H144, G144⟩ := id V_b143
      obtain ⟨T144, h144, X144, e144, W144, st144⟩ := stC X143 hx hZ e143 Ar144 (j := (0 : Int32)) (inb_of S144 ⟨by decide, by decide⟩) (g := (mkF m 56 #[.val (.int p1), .val (.int p2), .val (.int p3), .val (.int p4), .val (.int (4 : Int32)), .val (.ref w_DEVICE_ID), .val (.int (0 : Int32)), .val (.ref wS), .unset, .unset, .unset, .unset] [(.int ((p3 &&& (255 : Int32)).toUInt32.toUInt16.toUInt32.toInt32)), (.int (0 : Int32)), (.ref b143), (.ref b143)])) rfl rfl (hb hby at_56)
      have V144 := Arv.set Ar144 q144 S144 N144_ H144 G144 (fits_nar_char _) W144 0 rfl (Nat.le_of_ble_eq_true rfl)
      have K144 : Keep h0 h144 [] := (K143).wr W144 (Or.inr sz_b143)
      have N144 := Fr.snoc X144 N139 g_b143
      obtain ⟨T145, h145, X145, e145, E145, A145, D145, -, st145⟩ := newO X144 hx hZ hown (hw _ (List.mem_of_getElem? (i := 12) rfl)) (hw _ (List.mem_of_getElem? (i := 13) rfl)) (hw _ (List.mem_of_getElem? (i := 14) rfl)) e144 (g := (mkF m 59 #[.val (.int p1), .val (.int p2), .val (.int p3), .val (.int p4), .val (.int (4 : Int32)), .val (.ref w_DEVICE_ID), .val (.int (0 : Int32)), .val (.ref wS), .val (.ref b143), .unset, .unset, .unset] [])) rfl (hb hby at_59) (by decide) (by decide)
      obtain ⟨b145, g145⟩ : ∃ z, z = h144.size := ⟨_, rfl⟩
      rw [← g145] at A145 D145 st145
      have ne_b143_b145 : b143 ≠ b145 := Nat.ne_of_lt (Nat.lt_of_lt_of_le V144.lt (Nat.le_of_eq g145.symm))
      have g_b145 : n0 ≤ b145 := Nat.le_trans (Nat.le_trans Z0 K144.1) (Nat.le_of_eq g145.symm)
      have sz_b145 : h0.size ≤ b145 := Nat.le_trans (K144).1 (Nat.le_of_eq g145.symm)
      have K145 : Keep h0 h145 [] := (K144).ext E145
      have F145_kind : Fld Z h145 b145 "com/example/riscontro/riscontro/rules/Token" "kind" "Lcom/example/riscontro/riscontro/rules/Token$Kind;" .null := D145 (Or.inr (hw _ (List.mem_of_getElem? (i := 62) rfl))) (ty := (.object "com/example/riscontro/riscontro/rules/Token$Kind")) (by decide)
      have F145_text : Fld Z h145 b145 "com/example/riscontro/riscontro/rules/Token" "text" "Ljava/lang/String;" .null := D145 (Or.inr (hw _ (List.mem_of_getElem? (i := 64) rfl))) (ty := (.object "java/lang/String")) (by decide)
      have F145_start : Fld Z h145 b145 "com/example/riscontro/riscontro/rules/Token" "start" "I" (.int (0 : Int32)) := D145 (Or.inr (hw _ (List.mem_of_getElem? (i := 66) rfl))) (ty := .int) (by decide)
      have f146 := (V144.ext E145)
      obtain ⟨T147, h147, X147, e147, E147, A147, D147, -, st147⟩ := newO X145 hx hZ hown (hw _ (List.mem_of_getElem? (i := 15) rfl)) (hw _ (List.mem_of_getElem? (i := 16) rfl)) (hw _ (List.mem_of_getElem? (i := 17) rfl)) e145 (g := (mkF m 65 #[.val (.int p1), .val (.int p2), .val (.int p3), .val (.int p4), .val (.int (4 : Int32)), .val (.ref w_DEVICE_ID), .val (.int (0 : Int32)), .val (.ref wS), .val (.ref b143), .unset, .unset, .unset] [(.ref wS), (.ref b145), (.ref b145)])) rfl (hb hby at_65) (by decide) (by decide)
      obtain ⟨b147, g147⟩ : ∃ z, z = h145.size := ⟨_, rfl⟩
      rw [← g147] at A147 D147 st147
      have ne_b143_b147 : b143 ≠ b147 := Nat.ne_of_lt (Nat.lt_of_lt_of_le f146.lt (Nat.le_of_eq g147.symm))
      have ne_b145_b147 : b145 ≠ b147 := Nat.ne_of_lt (Nat.lt_of_lt_of_le A145.lt (Nat.le_of_eq g147.symm))
      have g_b147 : n0 ≤ b147 := Nat.le_trans (Nat.le_trans Z0 K145.1) (Nat.le_of_eq g147.symm)
      have sz_b147 : h0.size ≤ b147 := Nat.le_trans (K145).1 (Nat.le_of_eq g147.symm)
      have K147 : Keep h0 h147 [] := (K145).ext E147
      have F147_coder : Fld Z h147 b147 "java/lang/String" "coder" "B" (.int (0 : Int32)) := D147 (Or.inr (hw _ (List.mem_of_getElem? (i := 41) rfl))) (ty := .byte) (by decide)
      have F147_value : Fld Z h147 b147 "java/lang/String" "value" "[B" .null := D147 (Or.inr (hw _ (List.mem_of_getElem? (i := 43) rfl))) (ty := (.array .byte)) (by decide)
      have f148 := (f146.ext E147)
      have V149 : Arv Z h147 b143 _ .char (1 : Int32) (([nar .char ((p3 &&& (255 : Int32)).toUInt32.toUInt16.toUInt32.toInt32)] : List Int32).map Value.int) (.int (0 : Int32)) := f148
      have hws : ∀ d ∈ StrChars.Road.words, d.before a0 Z = true := fun d hd => hw d ((by decide +kernel : ∀ d ∈ StrChars.Road.words, d ∈ tables_1) d hd)
      obtain ⟨_, _, ⟨T150, L150, k150, n150⟩, -, X150, ⟨Lc150, hQ150, l150, y150, z150⟩, st150⟩ := X147.specialBack hx (y := (⟨"java/lang/String", "<init>", "([C)V"⟩ : MethodName)) rfl hown (mvT hZ (hw _ (List.mem_of_getElem? (i := 18) rfl))) (mvT hZ (hw _ (List.mem_of_getElem? (i := 19) rfl))) (mvT hZ (hw _ (List.mem_of_getElem? (i := 20) rfl))) (by decide) (StrChars.Road.backV (W := 4) hZ hws (kI := 4) (hw _ (List.mem_of_getElem? (i := 16) rfl)) (cs := [nar .char ((p3 &&& (255 : Int32)).toUInt32.toUInt16.toUInt32.toInt32)]) (bs := ([nar .char ((p3 &&& (255 : Int32)).toUInt32.toUInt16.toUInt32.toInt32)] : List Int32).map (fun c => c.toInt8.toInt32)) (n := 1) g_b147 (Nat.le_trans Z0 K147.1) A147 F147_value F147_coder V149 (Sta.ext (own_keep_ext K147) S_C) hzc rfl rfl (by decide) (by decide) (own_chrb p3) rfl (by decide) (by decide)) (g := (mkF m 71 #[.val (.int p1), .val (.int p2), .val (.int p3), .val (.int p4), .val (.int (4 : Int32)), .val (.ref w_DEVICE_ID), .val (.int (0 : Int32)), .val (.ref wS), .val (.ref b143), .unset, .unset, .unset] [(.ref b143), (.ref b147), (.ref b147), (.ref wS), (.ref b145), (.ref b145)])) rfl (by rw [hml]; rfl) (Steps.refl _) (a := b147) (argsL := [(.ref b143)]) (rest := [(.ref b147), (.ref wS), (.ref b145), (.ref b145)]) (lenOf pd_rm0_1 rfl) rfl (by show 2 * 0 + _ ≤ _; exact Nat.le_of_eq rfl) (hb hby at_71) (fun _ _ => ⟨rfl, e147, (by decide : 3 + 1 ≤ _), (by decide : 8 + 1 ≤ _)⟩)
      dsimp only [Pt.U, Pt.locs, Pt.cells, Pt.slots] at X150 l150 y150 z150 st150 hQ150
      subst l150 y150 z150
      obtain ⟨rfl, N150q, K150q, A150q, C150q, t150, k150, g1501, g1502, g1503, F150q, B150q⟩ := hQ150
      have N150 := Fr.app N144 N150q
      have K150 : Keep h0 T150.heap [] := (K147).trans K150q (allS (Or.inr sz_b147) all0)
      have f151 := ((Exa.ext E147 A145).keep K150q)
      have f152 := ((Fld.ext E147 F145_kind).keep K150q (ninS ne_b145_b147 nin0))
      have f153 := ((Fld.ext E147 F145_text).keep K150q (ninS ne_b145_b147 nin0))
      have f154 := ((Fld.ext E147 F145_start).keep K150q (ninS ne_b145_b147 nin0))
      obtain ⟨_, _, ⟨T155, L155, k155, n155⟩, -, X155, hS2_155, hg_155, ⟨Lc155, hQ155, l155, y155, z155⟩, st155⟩ := X150.specialBackS hx (y := (⟨"com/example/riscontro/riscontro/rules/Token", "<init>", "(Lcom/example/riscontro/riscontro/rules/Token$Kind;Ljava/lang/String;I)V"⟩ : MethodName)) rfl hown (mvT hZ (hw _ (List.mem_of_getElem? (i := 44) rfl))) (mvT hZ (hw _ (List.mem_of_getElem? (i := 45) rfl))) (mvT hZ (hw _ (List.mem_of_getElem? (i := 46) rfl))) (by decide) (backOfS (W := 1) (rmT l Z a0 hw [] b145 wS b147 (p4 &&& (2147483647 : Int32)) T150.heap n0 (Nat.le_trans Z0 K150.1) f151 f152 f153 f154 g_b145 (own_start p4)) hZ (hw _ (List.mem_of_getElem? (i := 46) rfl)) (hw _ (List.mem_of_getElem? (i := 14) rfl)) (by decide) (by decide)) (g := (mkF m 78 #[.val (.int p1), .val (.int p2), .val (.int p3), .val (.int p4), .val (.int (4 : Int32)), .val (.ref w_DEVICE_ID), .val (.int (0 : Int32)), .val (.ref wS), .val (.ref b143), .unset, .unset, .unset] [(.int (p4 &&& (2147483647 : Int32))), (.ref b147), (.ref wS), (.ref b145), (.ref b145)])) rfl (by rw [hml]; rfl) (Steps.refl _) (a := b145) (argsL := [(.ref wS), (.ref b147), (.int (p4 &&& (2147483647 : Int32)))]) (rest := [(.ref b145)]) (lenOf pd_rm0_2 rfl) rfl (by show 2 * 0 + _ ≤ _; exact Nat.le_of_eq rfl) (hb hby at_78) (fun _ _ => ⟨rfl, rfl, (by decide : 4 + 4 ≤ _), (by decide : 9 + 40 ≤ _)⟩)
      dsimp only [Pt.U, Pt.locs, Pt.cells, Pt.slots] at X155 l155 y155 z155 st155 hQ155
      subst l155 y155 z155
      obtain ⟨X155', hS155', hZ155', hown155'⟩ := rebS (s := s) (vm0 := s.vm) hS0 (show _ ≤ T150.heap.size by exact (Nat.le_trans (Nat.le_trans (Nat.le_trans (Nat.le_trans (Nat.le_trans (Nat.zero_le _) (E143).1) (Keep.of_wr W144).1) (E145).1) (E147).1) (K150q).1)) X155 hS2_155 hg_155 hZ hown
      obtain ⟨rfl, N155q, K155q, A155q, G155q⟩ := hQ155
      have N155 := Fr.app N150 N155q
      have K155 : Keep h0 T155.heap [] := (K150).trans K155q (allS (Or.inr sz_b145) all0)
      obtain ⟨cq156, kq156, q156a, q156b, q156c⟩ := isOf hZ155' rfl (Exa.ext (own_keep_ext K155) E_DEVICE_ID)
      obtain ⟨_, _, ⟨T156, L156, k156, n156⟩, -, X156, ⟨Lc156, hQ156, l156, y156, z156⟩, st156⟩ := X155'.virtualBack hx (y := (⟨"com/example/riscontro/riscontro/rules/Field", "takes", "(Lcom/example/riscontro/riscontro/rules/Token;)Z"⟩ : MethodName)) (z := (⟨"com/example/riscontro/riscontro/rules/Field", "takes", "(Lcom/example/riscontro/riscontro/rules/Token;)Z"⟩ : MethodName)) hown155' (mvT hZ155' (hw _ (List.mem_of_getElem? (i := 67) rfl))) (mvT hZ155' (hw _ (List.mem_of_getElem? (i := 68) rfl))) (notFace_of_selects (args := #[]) (mvT hZ155' (hw _ (List.mem_of_getElem? (i := 70) rfl)))) (mvT hZ155' (hw _ (List.mem_of_getElem? (i := 70) rfl))) (mvT hZ155' (hw _ (List.mem_of_getElem? (i := 69) rfl))) (by decide) (backOf (W := 0) (rmX l Z a0 hw [] w_DEVICE_ID b145 wS wS (1 : Int32) T155.heap n0 (Nat.le_trans Z0 K155.1) (Fld.ext (own_keep_ext K155) V_DEVICE_ID) G155q A155q (if_pos rfl)) hZ155' (hw _ (List.mem_of_getElem? (i := 71) rfl)) (hw _ (List.mem_of_getElem? (i := 6) rfl)) (by decide) (by decide)) q156a q156c (g := (mkF m 119 #[.val (.int p1), .val (.int p2), .val (.int p3), .val (.int p4), .val (.int (4 : Int32)), .val (.ref w_DEVICE_ID), .val (.int (0 : Int32)), .val (.ref wS), .val (.ref b143), .val (.ref b145), .val (.int (0 : Int32)), .val (.int (1 : Int32))] [(.ref b145), (.ref w_DEVICE_ID)])) rfl (by rw [hml]; rfl) (Steps.refl _) (argsL := [(.ref b145)]) (rest := []) (lenOf pd_rm0_3 rfl) rfl (by show 2 * 0 + _ ≤ _; exact Nat.le_of_eq rfl) (hb hby at_119) (fun _ _ => ⟨rfl, rfl, (by decide : 8 + 0 ≤ _), (by decide : 49 + 0 ≤ _)⟩)
      dsimp only [Pt.U, Pt.locs, Pt.cells, Pt.slots] at X156 l156 y156 z156 st156 hQ156
      subst l156 y156 z156
      obtain ⟨rfl, N156q, e156⟩ := hQ156
      have N156 := Fr.app N155 N156q
      obtain ⟨fs, hr, hrun, hended, hRW⟩ := Jvm.Stand.leaveW (s := s) (vm₁ := T155.vm) X156 hS155' (show _ ≤ T156.heap.size by rw [e156]; exact (Nat.le_refl T155.heap.size)) (v := some (.int (1 : Int32))) (fun h => by rw [Bd.returns] at h; cases h)
      refine ⟨_, _, pre140 _ ?_, hrun, hended, _, _, rfl, ?_, hRW.1, hRW.2.1, hRW.2.2.1, hRW.2.2.2.mono (by decide) (by decide)⟩
      · show Steps p.tables e below (T139.setTop (mkF m 19 #[.val (.int p1), .val (.int p2), .val (.int p3), .val (.int p4), .val (.int (4 : Int32)), .val (.ref w_DEVICE_ID), .unset, .unset, .unset, .unset, .unset, .unset] [(.int (p2 &&& (1 : Int32)))])) _
        refine XS.ifYes X139.here hx rfl (pc0 := 19) (pc' := 26) rfl (hb hby at_19) rfl ((if0 _ _).trans (teq hc141).1) (by decide) (by decide) ?_
        show Steps p.tables e below (T139.setTop (mkF m 26 #[.val (.int p1), .val (.int p2), .val (.int p3), .val (.int p4), .val (.int (4 : Int32)), .val (.ref w_DEVICE_ID), .unset, .unset, .unset, .unset, .unset, .unset] [])) _
        refine XS.iconst X139.here hx rfl (hb hby at_26) ?_
        show Steps p.tables e below (T139.setTop (mkF m 27 #[.val (.int p1), .val (.int p2), .val (.int p3), .val (.int p4), .val (.int (4 : Int32)), .val (.ref w_DEVICE_ID), .unset, .unset, .unset, .unset, .unset, .unset] [(.int (0 : Int32))])) _
        refine XS.istore X139.here hx rfl (hb hby at_27) rfl (l' := #[.val (.int p1), .val (.int p2), .val (.int p3), .val (.int p4), .val (.int (4 : Int32)), .val (.ref w_DEVICE_ID), .val (.int (0 : Int32)), .unset, .unset, .unset, .unset, .unset]) rfl ?_
        show Steps p.tables e below (T139.setTop (mkF m 29 #[.val (.int p1), .val (.int p2), .val (.int p3), .val (.int p4), .val (.int (4 : Int32)), .val (.ref w_DEVICE_ID), .val (.int (0 : Int32)), .unset, .unset, .unset, .unset, .unset] [])) _
        refine XS.iload X139.here hx rfl (hb hby at_29) rfl ?_
        show Steps p.tables e below (T139.setTop (mkF m 31 #[.val (.int p1), .val (.int p2), .val (.int p3), .val (.int p4), .val (.int (4 : Int32)), .val (.ref w_DEVICE_ID), .val (.int (0 : Int32)), .unset, .unset, .unset, .unset, .unset] [(.int (0 : Int32))])) _
        refine XS.ifYes X139.here hx rfl (pc0 := 31) (pc' := 40) rfl (hb hby at_31) rfl ((if0 _ _).trans (teq (rfl : (0 : Int32) = (0 : Int32))).1) (by decide) (by decide) ?_
        show Steps p.tables e below (T139.setTop (mkF m 40 #[.val (.int p1), .val (.int p2), .val (.int p3), .val (.int p4), .val (.int (4 : Int32)), .val (.ref w_DEVICE_ID), .val (.int (0 : Int32)), .unset, .unset, .unset, .unset, .unset] [])) _
        refine st142 _ ?_
        show Steps p.tables e below (T142.setTop (mkF m 43 #[.val (.int p1), .val (.int p2), .val (.int p3), .val (.int p4), .val (.int (4 : Int32)), .val (.ref w_DEVICE_ID), .val (.int (0 : Int32)), .unset, .unset, .unset, .unset, .unset] [(.ref wS)])) _
        refine XS.astore X142.here hx rfl (hb hby at_43) rfl rfl (l' := #[.val (.int p1), .val (.int p2), .val (.int p3), .val (.int p4), .val (.int (4 : Int32)), .val (.ref w_DEVICE_ID), .val (.int (0 : Int32)), .val (.ref wS), .unset, .unset, .unset, .unset]) rfl ?_
        show Steps p.tables e below (T142.setTop (mkF m 45 #[.val (.int p1), .val (.int p2), .val (.int p3), .val (.int p4), .val (.int (4 : Int32)), .val (.ref w_DEVICE_ID), .val (.int (0 : Int32)), .val (.ref wS), .unset, .unset, .unset, .unset] [])) _
        refine XS.iconst X142.here hx rfl (hb hby at_45) ?_
        show Steps p.tables e below (T142.setTop (mkF m 46 #[.val (.int p1), .val (.int p2), .val (.int p3), .val (.int p4), .val (.int (4 : Int32)), .val (.ref w_DEVICE_ID), .val (.int (0 : Int32)), .val (.ref wS), .unset, .unset, .unset, .unset] [(.int (1 : Int32))])) _
        refine st143 _ ?_
        show Steps p.tables e below (T143.setTop (mkF m 48 #[.val (.int p1), .val (.int p2), .val (.int p3), .val (.int p4), .val (.int (4 : Int32)), .val (.ref w_DEVICE_ID), .val (.int (0 : Int32)), .val (.ref wS), .unset, .unset, .unset, .unset] [(.ref b143)])) _
        refine XS.dup X143.here hx rfl (hb hby at_48) rfl rfl ?_
        show Steps p.tables e below (T143.setTop (mkF m 49 #[.val (.int p1), .val (.int p2), .val (.int p3), .val (.int p4), .val (.int (4 : Int32)), .val (.ref w_DEVICE_ID), .val (.int (0 : Int32)), .val (.ref wS), .unset, .unset, .unset, .unset] [(.ref b143), (.ref b143)])) _
        refine XS.iconst X143.here hx rfl (hb hby at_49) ?_
        show Steps p.tables e below (T143.setTop (mkF m 50 #[.val (.int p1), .val (.int p2), .val (.int p3), .val (.int p4), .val (.int (4 : Int32)), .val (.ref w_DEVICE_ID), .val (.int (0 : Int32)), .val (.ref wS), .unset, .unset, .unset, .unset] [(.int (0 : Int32)), (.ref b143), (.ref b143)])) _
        refine XS.iloadN X143.here hx rfl (hb hby at_50) rfl ?_
        show Steps p.tables e below (T143.setTop (mkF m 51 #[.val (.int p1), .val (.int p2), .val (.int p3), .val (.int p4), .val (.int (4 : Int32)), .val (.ref w_DEVICE_ID), .val (.int (0 : Int32)), .val (.ref wS), .unset, .unset, .unset, .unset] [(.int p3), (.int (0 : Int32)), (.ref b143), (.ref b143)])) _
        refine XS.sipush X143.here hx rfl (hb hby at_51) ?_
        show Steps p.tables e below (T143.setTop (mkF m 54 #[.val (.int p1), .val (.int p2), .val (.int p3), .val (.int p4), .val (.int (4 : Int32)), .val (.ref w_DEVICE_ID), .val (.int (0 : Int32)), .val (.ref wS), .unset, .unset, .unset, .unset] [(.int (255 : Int32)), (.int p3), (.int (0 : Int32)), (.ref b143), (.ref b143)])) _
        refine XS.iand X143.here hx rfl (hb hby at_54) rfl ?_
        show Steps p.tables e below (T143.setTop (mkF m 55 #[.val (.int p1), .val (.int p2), .val (.int p3), .val (.int p4), .val (.int (4 : Int32)), .val (.ref w_DEVICE_ID), .val (.int (0 : Int32)), .val (.ref wS), .unset, .unset, .unset, .unset] [(.int (p3 &&& (255 : Int32))), (.int (0 : Int32)), (.ref b143), (.ref b143)])) _
        refine XS.i2c X143.here hx rfl (hb hby at_55) rfl ?_
        show Steps p.tables e below (T143.setTop (mkF m 56 #[.val (.int p1), .val (.int p2), .val (.int p3), .val (.int p4), .val (.int (4 : Int32)), .val (.ref w_DEVICE_ID), .val (.int (0 : Int32)), .val (.ref wS), .unset, .unset, .unset, .unset] [(.int ((p3 &&& (255 : Int32)).toUInt32.toUInt16.toUInt32.toInt32)), (.int (0 : Int32)), (.ref b143), (.ref b143)])) _
        refine st144 _ ?_
        show Steps p.tables e below (T144.setTop (mkF m 57 #[.val (.int p1), .val (.int p2), .val (.int p3), .val (.int p4), .val (.int (4 : Int32)), .val (.ref w_DEVICE_ID), .val (.int (0 : Int32)), .val (.ref wS), .unset, .unset, .unset, .unset] [(.ref b143)])) _
        refine XS.astore X144.here hx rfl (hb hby at_57) rfl rfl (l' := #[.val (.int p1), .val (.int p2), .val (.int p3), .val (.int p4), .val (.int (4 : Int32)), .val (.ref w_DEVICE_ID), .val (.int (0 : Int32)), .val (.ref wS), .val (.ref b143), .unset, .unset, .unset]) rfl ?_
        show Steps p.tables e below (T144.setTop (mkF m 59 #[.val (.int p1), .val (.int p2), .val (.int p3), .val (.int p4), .val (.int (4 : Int32)), .val (.ref w_DEVICE_ID), .val (.int (0 : Int32)), .val (.ref wS), .val (.ref b143), .unset, .unset, .unset] [])) _
        refine st145 _ ?_
        show Steps p.tables e below (T145.setTop (mkF m 62 #[.val (.int p1), .val (.int p2), .val (.int p3), .val (.int p4), .val (.int (4 : Int32)), .val (.ref w_DEVICE_ID), .val (.int (0 : Int32)), .val (.ref wS), .val (.ref b143), .unset, .unset, .unset] [(.ref b145)])) _
        refine XS.dup X145.here hx rfl (hb hby at_62) rfl rfl ?_
        show Steps p.tables e below (T145.setTop (mkF m 63 #[.val (.int p1), .val (.int p2), .val (.int p3), .val (.int p4), .val (.int (4 : Int32)), .val (.ref w_DEVICE_ID), .val (.int (0 : Int32)), .val (.ref wS), .val (.ref b143), .unset, .unset, .unset] [(.ref b145), (.ref b145)])) _
        refine XS.aload X145.here hx rfl (hb hby at_63) rfl rfl ?_
        show Steps p.tables e below (T145.setTop (mkF m 65 #[.val (.int p1), .val (.int p2), .val (.int p3), .val (.int p4), .val (.int (4 : Int32)), .val (.ref w_DEVICE_ID), .val (.int (0 : Int32)), .val (.ref wS), .val (.ref b143), .unset, .unset, .unset] [(.ref wS), (.ref b145), (.ref b145)])) _
        refine st147 _ ?_
        show Steps p.tables e below (T147.setTop (mkF m 68 #[.val (.int p1), .val (.int p2), .val (.int p3), .val (.int p4), .val (.int (4 : Int32)), .val (.ref w_DEVICE_ID), .val (.int (0 : Int32)), .val (.ref wS), .val (.ref b143), .unset, .unset, .unset] [(.ref b147), (.ref wS), (.ref b145), (.ref b145)])) _
        refine XS.dup X147.here hx rfl (hb hby at_68) rfl rfl ?_
        show Steps p.tables e below (T147.setTop (mkF m 69 #[.val (.int p1), .val (.int p2), .val (.int p3), .val (.int p4), .val (.int (4 : Int32)), .val (.ref w_DEVICE_ID), .val (.int (0 : Int32)), .val (.ref wS), .val (.ref b143), .unset, .unset, .unset] [(.ref b147), (.ref b147), (.ref wS), (.ref b145), (.ref b145)])) _
        refine XS.aload X147.here hx rfl (hb hby at_69) rfl rfl ?_
        show Steps p.tables e below (T147.setTop (mkF m 71 #[.val (.int p1), .val (.int p2), .val (.int p3), .val (.int p4), .val (.int (4 : Int32)), .val (.ref w_DEVICE_ID), .val (.int (0 : Int32)), .val (.ref wS), .val (.ref b143), .unset, .unset, .unset] [(.ref b143), (.ref b147), (.ref b147), (.ref wS), (.ref b145), (.ref b145)])) _
        refine st150.trans ?_
        show Steps p.tables e below (T150.setTop (mkF m 74 #[.val (.int p1), .val (.int p2), .val (.int p3), .val (.int p4), .val (.int (4 : Int32)), .val (.ref w_DEVICE_ID), .val (.int (0 : Int32)), .val (.ref wS), .val (.ref b143), .unset, .unset, .unset] [(.ref b147), (.ref wS), (.ref b145), (.ref b145)])) _
        refine XS.iloadN X150.here hx rfl (hb hby at_74) rfl ?_
        show Steps p.tables e below (T150.setTop (mkF m 75 #[.val (.int p1), .val (.int p2), .val (.int p3), .val (.int p4), .val (.int (4 : Int32)), .val (.ref w_DEVICE_ID), .val (.int (0 : Int32)), .val (.ref wS), .val (.ref b143), .unset, .unset, .unset] [(.int p4), (.ref b147), (.ref wS), (.ref b145), (.ref b145)])) _
        refine X150.ldcInt hx hown (mvT hZ (hw _ (List.mem_of_getElem? (i := 0) rfl))) (g := (mkF m 75 #[.val (.int p1), .val (.int p2), .val (.int p3), .val (.int p4), .val (.int (4 : Int32)), .val (.ref w_DEVICE_ID), .val (.int (0 : Int32)), .val (.ref wS), .val (.ref b143), .unset, .unset, .unset] [(.int p4), (.ref b147), (.ref wS), (.ref b145), (.ref b145)])) rfl (hb hby at_75) _ ?_
        show Steps p.tables e below (T150.setTop (mkF m 77 #[.val (.int p1), .val (.int p2), .val (.int p3), .val (.int p4), .val (.int (4 : Int32)), .val (.ref w_DEVICE_ID), .val (.int (0 : Int32)), .val (.ref wS), .val (.ref b143), .unset, .unset, .unset] [(.int (2147483647 : Int32)), (.int p4), (.ref b147), (.ref wS), (.ref b145), (.ref b145)])) _
        refine XS.iand X150.here hx rfl (hb hby at_77) rfl ?_
        show Steps p.tables e below (T150.setTop (mkF m 78 #[.val (.int p1), .val (.int p2), .val (.int p3), .val (.int p4), .val (.int (4 : Int32)), .val (.ref w_DEVICE_ID), .val (.int (0 : Int32)), .val (.ref wS), .val (.ref b143), .unset, .unset, .unset] [(.int (p4 &&& (2147483647 : Int32))), (.ref b147), (.ref wS), (.ref b145), (.ref b145)])) _
        refine st155.trans ?_
        show Steps p.tables e below (T155.setTop (mkF m 81 #[.val (.int p1), .val (.int p2), .val (.int p3), .val (.int p4), .val (.int (4 : Int32)), .val (.ref w_DEVICE_ID), .val (.int (0 : Int32)), .val (.ref wS), .val (.ref b143), .unset, .unset, .unset] [(.ref b145)])) _
        refine XS.astore X155'.here hx rfl (hb hby at_81) rfl rfl (l' := #[.val (.int p1), .val (.int p2), .val (.int p3), .val (.int p4), .val (.int (4 : Int32)), .val (.ref w_DEVICE_ID), .val (.int (0 : Int32)), .val (.ref wS), .val (.ref b143), .val (.ref b145), .unset, .unset]) rfl ?_
        show Steps p.tables e below (T155.setTop (mkF m 83 #[.val (.int p1), .val (.int p2), .val (.int p3), .val (.int p4), .val (.int (4 : Int32)), .val (.ref w_DEVICE_ID), .val (.int (0 : Int32)), .val (.ref wS), .val (.ref b143), .val (.ref b145), .unset, .unset] [])) _
        refine XS.iload X155'.here hx rfl (hb hby at_83) rfl ?_
        show Steps p.tables e below (T155.setTop (mkF m 85 #[.val (.int p1), .val (.int p2), .val (.int p3), .val (.int p4), .val (.int (4 : Int32)), .val (.ref w_DEVICE_ID), .val (.int (0 : Int32)), .val (.ref wS), .val (.ref b143), .val (.ref b145), .unset, .unset] [(.int (4 : Int32))])) _
        refine XS.ifNo X155'.here hx rfl (hb hby at_85) rfl ((if0 _ _).trans (feq (by decide : ¬ ((4 : Int32) = (0 : Int32)))).1) ?_
        show Steps p.tables e below (T155.setTop (mkF m 88 #[.val (.int p1), .val (.int p2), .val (.int p3), .val (.int p4), .val (.int (4 : Int32)), .val (.ref w_DEVICE_ID), .val (.int (0 : Int32)), .val (.ref wS), .val (.ref b143), .val (.ref b145), .unset, .unset] [])) _
        refine XS.iload X155'.here hx rfl (hb hby at_88) rfl ?_
        show Steps p.tables e below (T155.setTop (mkF m 90 #[.val (.int p1), .val (.int p2), .val (.int p3), .val (.int p4), .val (.int (4 : Int32)), .val (.ref w_DEVICE_ID), .val (.int (0 : Int32)), .val (.ref wS), .val (.ref b143), .val (.ref b145), .unset, .unset] [(.int (4 : Int32))])) _
        refine XS.iconst X155'.here hx rfl (hb hby at_90) ?_
        show Steps p.tables e below (T155.setTop (mkF m 91 #[.val (.int p1), .val (.int p2), .val (.int p3), .val (.int p4), .val (.int (4 : Int32)), .val (.ref w_DEVICE_ID), .val (.int (0 : Int32)), .val (.ref wS), .val (.ref b143), .val (.ref b145), .unset, .unset] [(.int (5 : Int32)), (.int (4 : Int32))])) _
        refine XS.icmpYes X155'.here hx rfl (pc0 := 91) (pc' := 98) rfl (hb hby at_91) rfl (feq (by decide : ¬ ((4 : Int32) = (5 : Int32)))).2 (by decide) (by decide) ?_
        show Steps p.tables e below (T155.setTop (mkF m 98 #[.val (.int p1), .val (.int p2), .val (.int p3), .val (.int p4), .val (.int (4 : Int32)), .val (.ref w_DEVICE_ID), .val (.int (0 : Int32)), .val (.ref wS), .val (.ref b143), .val (.ref b145), .unset, .unset] [])) _
        refine XS.iconst X155'.here hx rfl (hb hby at_98) ?_
        show Steps p.tables e below (T155.setTop (mkF m 99 #[.val (.int p1), .val (.int p2), .val (.int p3), .val (.int p4), .val (.int (4 : Int32)), .val (.ref w_DEVICE_ID), .val (.int (0 : Int32)), .val (.ref wS), .val (.ref b143), .val (.ref b145), .unset, .unset] [(.int (0 : Int32))])) _
        refine XS.istore X155'.here hx rfl (hb hby at_99) rfl (l' := #[.val (.int p1), .val (.int p2), .val (.int p3), .val (.int p4), .val (.int (4 : Int32)), .val (.ref w_DEVICE_ID), .val (.int (0 : Int32)), .val (.ref wS), .val (.ref b143), .val (.ref b145), .val (.int (0 : Int32)), .unset]) rfl ?_
        show Steps p.tables e below (T155.setTop (mkF m 101 #[.val (.int p1), .val (.int p2), .val (.int p3), .val (.int p4), .val (.int (4 : Int32)), .val (.ref w_DEVICE_ID), .val (.int (0 : Int32)), .val (.ref wS), .val (.ref b143), .val (.ref b145), .val (.int (0 : Int32)), .unset] [])) _
        refine XS.iload X155'.here hx rfl (hb hby at_101) rfl ?_
        show Steps p.tables e below (T155.setTop (mkF m 103 #[.val (.int p1), .val (.int p2), .val (.int p3), .val (.int p4), .val (.int (4 : Int32)), .val (.ref w_DEVICE_ID), .val (.int (0 : Int32)), .val (.ref wS), .val (.ref b143), .val (.ref b145), .val (.int (0 : Int32)), .unset] [(.int (0 : Int32))])) _
        refine XS.iload X155'.here hx rfl (hb hby at_103) rfl ?_
        show Steps p.tables e below (T155.setTop (mkF m 105 #[.val (.int p1), .val (.int p2), .val (.int p3), .val (.int p4), .val (.int (4 : Int32)), .val (.ref w_DEVICE_ID), .val (.int (0 : Int32)), .val (.ref wS), .val (.ref b143), .val (.ref b145), .val (.int (0 : Int32)), .unset] [(.int (0 : Int32)), (.int (0 : Int32))])) _
        refine XS.icmpNo X155'.here hx rfl (hb hby at_105) rfl (teq (rfl : (0 : Int32) = (0 : Int32))).2 ?_
        show Steps p.tables e below (T155.setTop (mkF m 108 #[.val (.int p1), .val (.int p2), .val (.int p3), .val (.int p4), .val (.int (4 : Int32)), .val (.ref w_DEVICE_ID), .val (.int (0 : Int32)), .val (.ref wS), .val (.ref b143), .val (.ref b145), .val (.int (0 : Int32)), .unset] [])) _
        refine XS.iconst X155'.here hx rfl (hb hby at_108) ?_
        show Steps p.tables e below (T155.setTop (mkF m 109 #[.val (.int p1), .val (.int p2), .val (.int p3), .val (.int p4), .val (.int (4 : Int32)), .val (.ref w_DEVICE_ID), .val (.int (0 : Int32)), .val (.ref wS), .val (.ref b143), .val (.ref b145), .val (.int (0 : Int32)), .unset] [(.int (1 : Int32))])) _
        refine XS.goto X155'.here hx rfl (pc0 := 109) (pc' := 113) rfl (hb hby at_109) (by decide) (by decide) ?_
        show Steps p.tables e below (T155.setTop (mkF m 113 #[.val (.int p1), .val (.int p2), .val (.int p3), .val (.int p4), .val (.int (4 : Int32)), .val (.ref w_DEVICE_ID), .val (.int (0 : Int32)), .val (.ref wS), .val (.ref b143), .val (.ref b145), .val (.int (0 : Int32)), .unset] [(.int (1 : Int32))])) _
        refine XS.istore X155'.here hx rfl (hb hby at_113) rfl (l' := #[.val (.int p1), .val (.int p2), .val (.int p3), .val (.int p4), .val (.int (4 : Int32)), .val (.ref w_DEVICE_ID), .val (.int (0 : Int32)), .val (.ref wS), .val (.ref b143), .val (.ref b145), .val (.int (0 : Int32)), .val (.int (1 : Int32))]) rfl ?_
        show Steps p.tables e below (T155.setTop (mkF m 115 #[.val (.int p1), .val (.int p2), .val (.int p3), .val (.int p4), .val (.int (4 : Int32)), .val (.ref w_DEVICE_ID), .val (.int (0 : Int32)), .val (.ref wS), .val (.ref b143), .val (.ref b145), .val (.int (0 : Int32)), .val (.int (1 : Int32))] [])) _
        refine XS.aload X155'.here hx rfl (hb hby at_115) rfl rfl ?_
        show Steps p.tables e below (T155.setTop (mkF m 117 #[.val (.int p1), .val (.int p2), .val (.int p3), .val (.int p4), .val (.int (4 : Int32)), .val (.ref w_DEVICE_ID), .val (.int (0 : Int32)), .val (.ref wS), .val (.ref b143), .val (.ref b145), .val (.int (0 : Int32)), .val (.int (1 : Int32))] [(.ref w_DEVICE_ID)])) _
        refine XS.aload X155'.here hx rfl (hb hby at_117) rfl rfl ?_
        show Steps p.tables e below (T155.setTop (mkF m 119 #[.val (.int p1), .val (.int p2), .val (.int p3), .val (.int p4), .val (.int (4 : Int32)), .val (.ref w_DEVICE_ID), .val (.int (0 : Int32)), .val (.ref wS), .val (.ref b143), .val (.ref b145), .val (.int (0 : Int32)), .val (.int (1 : Int32))] [(.ref b145), (.ref w_DEVICE_ID)])) _
        refine st156.trans ?_
        show Steps p.tables e below (T156.setTop (mkF m 122 #[.val (.int p1), .val (.int p2), .val (.int p3), .val (.int p4), .val (.int (4 : Int32)), .val (.ref w_DEVICE_ID), .val (.int (0 : Int32)), .val (.ref wS), .val (.ref b143), .val (.ref b145), .val (.int (0 : Int32)), .val (.int (1 : Int32))] [(.int (1 : Int32))])) _
        refine XS.iload X156.here hx rfl (hb hby at_122) rfl ?_
        show Steps p.tables e below (T156.setTop (mkF m 124 #[.val (.int p1), .val (.int p2), .val (.int p3), .val (.int p4), .val (.int (4 : Int32)), .val (.ref w_DEVICE_ID), .val (.int (0 : Int32)), .val (.ref wS), .val (.ref b143), .val (.ref b145), .val (.int (0 : Int32)), .val (.int (1 : Int32))] [(.int (1 : Int32)), (.int (1 : Int32))])) _
        refine XS.icmpNo X156.here hx rfl (hb hby at_124) rfl (teq (rfl : (1 : Int32) = (1 : Int32))).2 ?_
        show Steps p.tables e below (T156.setTop (mkF m 127 #[.val (.int p1), .val (.int p2), .val (.int p3), .val (.int p4), .val (.int (4 : Int32)), .val (.ref w_DEVICE_ID), .val (.int (0 : Int32)), .val (.ref wS), .val (.ref b143), .val (.ref b145), .val (.int (0 : Int32)), .val (.int (1 : Int32))] [])) _
        refine XS.iconst X156.here hx rfl (hb hby at_127) ?_
        show Steps p.tables e below (T156.setTop (mkF m 128 #[.val (.int p1), .val (.int p2), .val (.int p3), .val (.int p4), .val (.int (4 : Int32)), .val (.ref w_DEVICE_ID), .val (.int (0 : Int32)), .val (.ref wS), .val (.ref b143), .val (.ref b145), .val (.int (0 : Int32)), .val (.int (1 : Int32))] [(.int (1 : Int32))])) _
        refine XS.goto X156.here hx rfl (pc0 := 128) (pc' := 132) rfl (hb hby at_128) (by decide) (by decide) ?_
        show Steps p.tables e below (T156.setTop (mkF m 132 #[.val (.int p1), .val (.int p2), .val (.int p3), .val (.int p4), .val (.int (4 : Int32)), .val (.ref w_DEVICE_ID), .val (.int (0 : Int32)), .val (.ref wS), .val (.ref b143), .val (.ref b145), .val (.int (0 : Int32)), .val (.int (1 : Int32))] [(.int (1 : Int32))])) _
        exact retN X156 hx (t := .boolean) Bd.returns (by simp) (hb hby at_132) hr
      · show Q_rm0 Z p1 p2 p3 p4 w_AMOUNT w_CURRENCY w_MERCHANT_ID w_IP_ADDRESS w_DEVICE_ID w_USER_AGE w_USER_REGION wN wS zc h0 n0 _ T156.heap _
        rw [e156]
        exact ⟨rfl, N156⟩
    · obtain ⟨T157, X157, e157, st157⟩ := getS2 X139 hx hZ hown (host := "") (Or.inl (hw _ (List.mem_of_getElem? (i := 8) rfl))) Via.refl e139 S_NUMBER (g := (mkF m 34 #[.val (.int p1), .val (.int p2), .val (.int p3), .val (.int p4), .val (.int (4 : Int32)), .val (.ref w_DEVICE_ID), .val (.int (1 : Int32)), .unset, .unset, .unset, .unset, .unset] [])) rfl (hb hby at_34)
      obtain ⟨T158, h158, k158, X158, e158, E158, A158, st158⟩ := newP X157 hx hZ (hw _ (List.mem_of_getElem? (i := 11) rfl)) e157 (g := (mkF m 46 #[.val (.int p1), .val (.int p2), .val (.int p3), .val (.int p4), .val (.int (4 : Int32)), .val (.ref w_DEVICE_ID), .val (.int (1 : Int32)), .val (.ref wN), .unset, .unset, .unset, .unset] [(.int (1 : Int32))])) rfl (hb hby at_46) rfl (by decide) (cap := 1) (by decide) (by decide) (by decide) (by decide)
      obtain ⟨b158, g158⟩ : ∃ z, z = h0.size := ⟨_, rfl⟩
      rw [← g158] at A158 st158
      have V_b158 : Arv Z h158 b158 k158 .char (1 : Int32) [(.int (0 : Int32))] (.int (0 : Int32)) := (Arv.new A158 (by decide)).pad (pad_rep [] (.int (0 : Int32)) 1)
      have g_b158 : n0 ≤ b158 := Nat.le_trans Z0 (Nat.le_of_eq g158.symm)
      have sz_b158 : h0.size ≤ b158 := Nat.le_trans ((Keep.refl h0 [])).1 (Nat.le_of_eq g158.symm)
      have K158 : Keep h0 h158 [] := ((Keep.refl h0 [])).ext E158
      obtain ⟨cl159, Ar159, q159, S159, N159_, H159, G159⟩ := id V_b158
      obtain ⟨T159, h159, X159, e159, W159, st159⟩ := stC X158 hx hZ e158 Ar159 (j := (0 : Int32)) (inb_of S159 ⟨by decide, by decide⟩) (g := (mkF m 56 #[.val (.int p1), .val (.int p2), .val (.int p3), .val (.int p4), .val (.int (4 : Int32)), .val (.ref w_DEVICE_ID), .val (.int (1 : Int32)), .val (.ref wN), .unset, .unset, .unset, .unset] [(.int ((p3 &&& (255 : Int32)).toUInt32.toUInt16.toUInt32.toInt32)), (.int (0 : Int32)), (.ref b158), (.ref b158)])) rfl rfl (hb hby at_56)
      have V159 := Arv.set Ar159 q159 S159 N159_ H159 G159 (fits_nar_char _) W159 0 rfl (Nat.le_of_ble_eq_true rfl)
      have K159 : Keep h0 h159 [] := (K158).wr W159 (Or.inr sz_b158)
      have N159 := Fr.snoc X159 N139 g_b158
      obtain ⟨T160, h160, X160, e160, E160, A160, D160, -, st160⟩ := newO X159 hx hZ hown (hw _ (List.mem_of_getElem? (i := 12) rfl)) (hw _ (List.mem_of_getElem? (i := 13) rfl)) (hw _ (List.mem_of_getElem? (i := 14) rfl)) e159 (g := (mkF m 59 #[.val (.int p1), .val (.int p2), .val (.int p3), .val (.int p4), .val (.int (4 : Int32)), .val (.ref w_DEVICE_ID), .val (.int (1 : Int32)), .val (.ref wN), .val (.ref b158), .unset, .unset, .unset] [])) rfl (hb hby at_59) (by decide) (by decide)
      obtain ⟨b160, g160⟩ : ∃ z, z = h159.size := ⟨_, rfl⟩
      rw [← g160] at A160 D160 st160
      have ne_b158_b160 : b158 ≠ b160 := Nat.ne_of_lt (Nat.lt_of_lt_of_le V159.lt (Nat.le_of_eq g160.symm))
      have g_b160 : n0 ≤ b160 := Nat.le_trans (Nat.le_trans Z0 K159.1) (Nat.le_of_eq g160.symm)
      have sz_b160 : h0.size ≤ b160 := Nat.le_trans (K159).1 (Nat.le_of_eq g160.symm)
      have K160 : Keep h0 h160 [] := (K159).ext E160
      have F160_kind : Fld Z h160 b160 "com/example/riscontro/riscontro/rules/Token" "kind" "Lcom/example/riscontro/riscontro/rules/Token$Kind;" .null := D160 (Or.inr (hw _ (List.mem_of_getElem? (i := 62) rfl))) (ty := (.object "com/example/riscontro/riscontro/rules/Token$Kind")) (by decide)
      have F160_text : Fld Z h160 b160 "com/example/riscontro/riscontro/rules/Token" "text" "Ljava/lang/String;" .null := D160 (Or.inr (hw _ (List.mem_of_getElem? (i := 64) rfl))) (ty := (.object "java/lang/String")) (by decide)
      have F160_start : Fld Z h160 b160 "com/example/riscontro/riscontro/rules/Token" "start" "I" (.int (0 : Int32)) := D160 (Or.inr (hw _ (List.mem_of_getElem? (i := 66) rfl))) (ty := .int) (by decide)
      have f161 := (V159.ext E160)
      obtain ⟨T162, h162, X162, e162, E162, A162, D162, -, st162⟩ := newO X160 hx hZ hown (hw _ (List.mem_of_getElem? (i := 15) rfl)) (hw _ (List.mem_of_getElem? (i := 16) rfl)) (hw _ (List.mem_of_getElem? (i := 17) rfl)) e160 (g := (mkF m 65 #[.val (.int p1), .val (.int p2), .val (.int p3), .val (.int p4), .val (.int (4 : Int32)), .val (.ref w_DEVICE_ID), .val (.int (1 : Int32)), .val (.ref wN), .val (.ref b158), .unset, .unset, .unset] [(.ref wN), (.ref b160), (.ref b160)])) rfl (hb hby at_65) (by decide) (by decide)
      obtain ⟨b162, g162⟩ : ∃ z, z = h160.size := ⟨_, rfl⟩
      rw [← g162] at A162 D162 st162
      have ne_b158_b162 : b158 ≠ b162 := Nat.ne_of_lt (Nat.lt_of_lt_of_le f161.lt (Nat.le_of_eq g162.symm))
      have ne_b160_b162 : b160 ≠ b162 := Nat.ne_of_lt (Nat.lt_of_lt_of_le A160.lt (Nat.le_of_eq g162.symm))
      have g_b162 : n0 ≤ b162 := Nat.le_trans (Nat.le_trans Z0 K160.1) (Nat.le_of_eq g162.symm)
      have sz_b162 : h0.size ≤ b162 := Nat.le_trans (K160).1 (Nat.le_of_eq g162.symm)
      have K162 : Keep h0 h162 [] := (K160).ext E162
      have F162_coder : Fld Z h162 b162 "java/lang/String" "coder" "B" (.int (0 : Int32)) := D162 (Or.inr (hw _ (List.mem_of_getElem? (i := 41) rfl))) (ty := .byte) (by decide)
      have F162_value : Fld Z h162 b162 "java/lang/String" "value" "[B" .null := D162 (Or.inr (hw _ (List.mem_of_getElem? (i := 43) rfl))) (ty := (.array .byte)) (by decide)
      have f163 := (f161.ext E162)
      have V164 : Arv Z h162 b158 _ .char (1 : Int32) (([nar .char ((p3 &&& (255 : Int32)).toUInt32.toUInt16.toUInt32.toInt32)] : List Int32).map Value.int) (.int (0 : Int32)) := f163
      have hws : ∀ d ∈ StrChars.Road.words, d.before a0 Z = true := fun d hd => hw d ((by decide +kernel : ∀ d ∈ StrChars.Road.words, d ∈ tables_1) d hd)
      obtain ⟨_, _, ⟨T165, L165, k165, n165⟩, -, X165, ⟨Lc165, hQ165, l165, y165, z165⟩, st165⟩ := X162.specialBack hx (y := (⟨"java/lang/String", "<init>", "([C)V"⟩ : MethodName)) rfl hown (mvT hZ (hw _ (List.mem_of_getElem? (i := 18) rfl))) (mvT hZ (hw _ (List.mem_of_getElem? (i := 19) rfl))) (mvT hZ (hw _ (List.mem_of_getElem? (i := 20) rfl))) (by decide) (StrChars.Road.backV (W := 4) hZ hws (kI := 4) (hw _ (List.mem_of_getElem? (i := 16) rfl)) (cs := [nar .char ((p3 &&& (255 : Int32)).toUInt32.toUInt16.toUInt32.toInt32)]) (bs := ([nar .char ((p3 &&& (255 : Int32)).toUInt32.toUInt16.toUInt32.toInt32)] : List Int32).map (fun c => c.toInt8.toInt32)) (n := 1) g_b162 (Nat.le_trans Z0 K162.1) A162 F162_value F162_coder V164 (Sta.ext (own_keep_ext K162) S_C) hzc rfl rfl (by decide) (by decide) (own_chrb p3) rfl (by decide) (by decide)) (g := (mkF m 71 #[.val (.int p1), .val (.int p2), .val (.int p3), .val (.int p4), .val (.int (4 : Int32)), .val (.ref w_DEVICE_ID), .val (.int (1 : Int32)), .val (.ref wN), .val (.ref b158), .unset, .unset, .unset] [(.ref b158), (.ref b162), (.ref b162), (.ref wN), (.ref b160), (.ref b160)])) rfl (by rw [hml]; rfl) (Steps.refl _) (a := b162) (argsL := [(.ref b158)]) (rest := [(.ref b162), (.ref wN), (.ref b160), (.ref b160)]) (lenOf pd_rm0_1 rfl) rfl (by show 2 * 0 + _ ≤ _; exact Nat.le_of_eq rfl) (hb hby at_71) (fun _ _ => ⟨rfl, e162, (by decide : 3 + 1 ≤ _), (by decide : 8 + 1 ≤ _)⟩)
      dsimp only [Pt.U, Pt.locs, Pt.cells, Pt.slots] at X165 l165 y165 z165 st165 hQ165
      subst l165 y165 z165
      obtain ⟨rfl, N165q, K165q, A165q, C165q, t165, k165, g1651, g1652, g1653, F165q, B165q⟩ := hQ165
      have N165 := Fr.app N159 N165q
      have K165 : Keep h0 T165.heap [] := (K162).trans K165q (allS (Or.inr sz_b162) all0)
      have f166 := ((Exa.ext E162 A160).keep K165q)
      have f167 := ((Fld.ext E162 F160_kind).keep K165q (ninS ne_b160_b162 nin0))
      have f168 := ((Fld.ext E162 F160_text).keep K165q (ninS ne_b160_b162 nin0))
      have f169 := ((Fld.ext E162 F160_start).keep K165q (ninS ne_b160_b162 nin0))
      obtain ⟨_, _, ⟨T170, L170, k170, n170⟩, -, X170, hS2_170, hg_170, ⟨Lc170, hQ170, l170, y170, z170⟩, st170⟩ := X165.specialBackS hx (y := (⟨"com/example/riscontro/riscontro/rules/Token", "<init>", "(Lcom/example/riscontro/riscontro/rules/Token$Kind;Ljava/lang/String;I)V"⟩ : MethodName)) rfl hown (mvT hZ (hw _ (List.mem_of_getElem? (i := 44) rfl))) (mvT hZ (hw _ (List.mem_of_getElem? (i := 45) rfl))) (mvT hZ (hw _ (List.mem_of_getElem? (i := 46) rfl))) (by decide) (backOfS (W := 1) (rmT l Z a0 hw [] b160 wN b162 (p4 &&& (2147483647 : Int32)) T165.heap n0 (Nat.le_trans Z0 K165.1) f166 f167 f168 f169 g_b160 (own_start p4)) hZ (hw _ (List.mem_of_getElem? (i := 46) rfl)) (hw _ (List.mem_of_getElem? (i := 14) rfl)) (by decide) (by decide)) (g := (mkF m 78 #[.val (.int p1), .val (.int p2), .val (.int p3), .val (.int p4), .val (.int (4 : Int32)), .val (.ref w_DEVICE_ID), .val (.int (1 : Int32)), .val (.ref wN), .val (.ref b158), .unset, .unset, .unset] [(.int (p4 &&& (2147483647 : Int32))), (.ref b162), (.ref wN), (.ref b160), (.ref b160)])) rfl (by rw [hml]; rfl) (Steps.refl _) (a := b160) (argsL := [(.ref wN), (.ref b162), (.int (p4 &&& (2147483647 : Int32)))]) (rest := [(.ref b160)]) (lenOf pd_rm0_2 rfl) rfl (by show 2 * 0 + _ ≤ _; exact Nat.le_of_eq rfl) (hb hby at_78) (fun _ _ => ⟨rfl, rfl, (by decide : 4 + 4 ≤ _), (by decide : 9 + 40 ≤ _)⟩)
      dsimp only [Pt.U, Pt.locs, Pt.cells, Pt.slots] at X170 l170 y170 z170 st170 hQ170
      subst l170 y170 z170
      obtain ⟨X170', hS170', hZ170', hown170'⟩ := rebS (s := s) (vm0 := s.vm) hS0 (show _ ≤ T165.heap.size by exact (Nat.le_trans (Nat.le_trans (Nat.le_trans (Nat.le_trans (Nat.le_trans (Nat.zero_le _) (E158).1) (Keep.of_wr W159).1) (E160).1) (E162).1) (K165q).1)) X170 hS2_170 hg_170 hZ hown
      obtain ⟨rfl, N170q, K170q, A170q, G170q⟩ := hQ170
      have N170 := Fr.app N165 N170q
      have K170 : Keep h0 T170.heap [] := (K165).trans K170q (allS (Or.inr sz_b160) all0)
      obtain ⟨cq171, kq171, q171a, q171b, q171c⟩ := isOf hZ170' rfl (Exa.ext (own_keep_ext K170) E_DEVICE_ID)
      obtain ⟨_, _, ⟨T171, L171, k171, n171⟩, -, X171, ⟨Lc171, hQ171, l171, y171, z171⟩, st171⟩ := X170'.virtualBack hx (y := (⟨"com/example/riscontro/riscontro/rules/Field", "takes", "(Lcom/example/riscontro/riscontro/rules/Token;)Z"⟩ : MethodName)) (z := (⟨"com/example/riscontro/riscontro/rules/Field", "takes", "(Lcom/example/riscontro/riscontro/rules/Token;)Z"⟩ : MethodName)) hown170' (mvT hZ170' (hw _ (List.mem_of_getElem? (i := 67) rfl))) (mvT hZ170' (hw _ (List.mem_of_getElem? (i := 68) rfl))) (notFace_of_selects (args := #[]) (mvT hZ170' (hw _ (List.mem_of_getElem? (i := 70) rfl)))) (mvT hZ170' (hw _ (List.mem_of_getElem? (i := 70) rfl))) (mvT hZ170' (hw _ (List.mem_of_getElem? (i := 69) rfl))) (by decide) (backOf (W := 0) (rmX l Z a0 hw [] w_DEVICE_ID b160 wS wN (0 : Int32) T170.heap n0 (Nat.le_trans Z0 K170.1) (Fld.ext (own_keep_ext K170) V_DEVICE_ID) G170q A170q (if_neg hNS)) hZ170' (hw _ (List.mem_of_getElem? (i := 71) rfl)) (hw _ (List.mem_of_getElem? (i := 6) rfl)) (by decide) (by decide)) q171a q171c (g := (mkF m 119 #[.val (.int p1), .val (.int p2), .val (.int p3), .val (.int p4), .val (.int (4 : Int32)), .val (.ref w_DEVICE_ID), .val (.int (1 : Int32)), .val (.ref wN), .val (.ref b158), .val (.ref b160), .val (.int (0 : Int32)), .val (.int (0 : Int32))] [(.ref b160), (.ref w_DEVICE_ID)])) rfl (by rw [hml]; rfl) (Steps.refl _) (argsL := [(.ref b160)]) (rest := []) (lenOf pd_rm0_3 rfl) rfl (by show 2 * 0 + _ ≤ _; exact Nat.le_of_eq rfl) (hb hby at_119) (fun _ _ => ⟨rfl, rfl, (by decide : 8 + 0 ≤ _), (by decide : 49 + 0 ≤ _)⟩)
      dsimp only [Pt.U, Pt.locs, Pt.cells, Pt.slots] at X171 l171 y171 z171 st171 hQ171
      subst l171 y171 z171
      obtain ⟨rfl, N171q, e171⟩ := hQ171
      have N171 := Fr.app N170 N171q
      obtain ⟨fs, hr, hrun, hended, hRW⟩ := Jvm.Stand.leaveW (s := s) (vm₁ := T170.vm) X171 hS170' (show _ ≤ T171.heap.size by rw [e171]; exact (Nat.le_refl T170.heap.size)) (v := some (.int (1 : Int32))) (fun h => by rw [Bd.returns] at h; cases h)
      refine ⟨_, _, pre140 _ ?_, hrun, hended, _, _, rfl, ?_, hRW.1, hRW.2.1, hRW.2.2.1, hRW.2.2.2.mono (by decide) (by decide)⟩
      · show Steps p.tables e below (T139.setTop (mkF m 19 #[.val (.int p1), .val (.int p2), .val (.int p3), .val (.int p4), .val (.int (4 : Int32)), .val (.ref w_DEVICE_ID), .unset, .unset, .unset, .unset, .unset, .unset] [(.int (p2 &&& (1 : Int32)))])) _
        refine XS.ifNo X139.here hx rfl (hb hby at_19) rfl ((if0 _ _).trans (feq hc141).1) ?_
        show Steps p.tables e below (T139.setTop (mkF m 22 #[.val (.int p1), .val (.int p2), .val (.int p3), .val (.int p4), .val (.int (4 : Int32)), .val (.ref w_DEVICE_ID), .unset, .unset, .unset, .unset, .unset, .unset] [])) _
        refine XS.iconst X139.here hx rfl (hb hby at_22) ?_
        show Steps p.tables e below (T139.setTop (mkF m 23 #[.val (.int p1), .val (.int p2), .val (.int p3), .val (.int p4), .val (.int (4 : Int32)), .val (.ref w_DEVICE_ID), .unset, .unset, .unset, .unset, .unset, .unset] [(.int (1 : Int32))])) _
        refine XS.goto X139.here hx rfl (pc0 := 23) (pc' := 27) rfl (hb hby at_23) (by decide) (by decide) ?_
        show Steps p.tables e below (T139.setTop (mkF m 27 #[.val (.int p1), .val (.int p2), .val (.int p3), .val (.int p4), .val (.int (4 : Int32)), .val (.ref w_DEVICE_ID), .unset, .unset, .unset, .unset, .unset, .unset] [(.int (1 : Int32))])) _
        refine XS.istore X139.here hx rfl (hb hby at_27) rfl (l' := #[.val (.int p1), .val (.int p2), .val (.int p3), .val (.int p4), .val (.int (4 : Int32)), .val (.ref w_DEVICE_ID), .val (.int (1 : Int32)), .unset, .unset, .unset, .unset, .unset]) rfl ?_
        show Steps p.tables e below (T139.setTop (mkF m 29 #[.val (.int p1), .val (.int p2), .val (.int p3), .val (.int p4), .val (.int (4 : Int32)), .val (.ref w_DEVICE_ID), .val (.int (1 : Int32)), .unset, .unset, .unset, .unset, .unset] [])) _
        refine XS.iload X139.here hx rfl (hb hby at_29) rfl ?_
        show Steps p.tables e below (T139.setTop (mkF m 31 #[.val (.int p1), .val (.int p2), .val (.int p3), .val (.int p4), .val (.int (4 : Int32)), .val (.ref w_DEVICE_ID), .val (.int (1 : Int32)), .unset, .unset, .unset, .unset, .unset] [(.int (1 : Int32))])) _
        refine XS.ifNo X139.here hx rfl (hb hby at_31) rfl ((if0 _ _).trans (feq (by decide : ¬ ((1 : Int32) = (0 : Int32)))).1) ?_
        show Steps p.tables e below (T139.setTop (mkF m 34 #[.val (.int p1), .val (.int p2), .val (.int p3), .val (.int p4), .val (.int (4 : Int32)), .val (.ref w_DEVICE_ID), .val (.int (1 : Int32)), .unset, .unset, .unset, .unset, .unset] [])) _
        refine st157 _ ?_
        show Steps p.tables e below (T157.setTop (mkF m 37 #[.val (.int p1), .val (.int p2), .val (.int p3), .val (.int p4), .val (.int (4 : Int32)), .val (.ref w_DEVICE_ID), .val (.int (1 : Int32)), .unset, .unset, .unset, .unset, .unset] [(.ref wN)])) _
        refine XS.goto X157.here hx rfl (pc0 := 37) (pc' := 43) rfl (hb hby at_37) (by decide) (by decide) ?_
        show Steps p.tables e below (T157.setTop (mkF m 43 #[.val (.int p1), .val (.int p2), .val (.int p3), .val (.int p4), .val (.int (4 : Int32)), .val (.ref w_DEVICE_ID), .val (.int (1 : Int32)), .unset, .unset, .unset, .unset, .unset] [(.ref wN)])) _
        refine XS.astore X157.here hx rfl (hb hby at_43) rfl rfl (l' := #[.val (.int p1), .val (.int p2), .val (.int p3), .val (.int p4), .val (.int (4 : Int32)), .val (.ref w_DEVICE_ID), .val (.int (1 : Int32)), .val (.ref wN), .unset, .unset, .unset, .unset]) rfl ?_
        show Steps p.tables e below (T157.setTop (mkF m 45 #[.val (.int p1), .val (.int p2), .val (.int p3), .val (.int p4), .val (.int (4 : Int32)), .val (.ref w_DEVICE_ID), .val (.int (1 : Int32)), .val (.ref wN), .unset, .unset, .unset, .unset] [])) _
        refine XS.iconst X157.here hx rfl (hb hby at_45) ?_
        show Steps p.tables e below (T157.setTop (mkF m 46 #[.val (.int p1), .val (.int p2), .val (.int p3), .val (.int p4), .val (.int (4 : Int32)), .val (.ref w_DEVICE_ID), .val (.int (1 : Int32)), .val (.ref wN), .unset, .unset, .unset, .unset] [(.int (1 : Int32))])) _
        refine st158 _ ?_
        show Steps p.tables e below (T158.setTop (mkF m 48 #[.val (.int p1), .val (.int p2), .val (.int p3), .val (.int p4), .val (.int (4 : Int32)), .val (.ref w_DEVICE_ID), .val (.int (1 : Int32)), .val (.ref wN), .unset, .unset, .unset, .unset] [(.ref b158)])) _
        refine XS.dup X158.here hx rfl (hb hby at_48) rfl rfl ?_
        show Steps p.tables e below (T158.setTop (mkF m 49 #[.val (.int p1), .val (.int p2), .val (.int p3), .val (.int p4), .val (.int (4 : Int32)), .val (.ref w_DEVICE_ID), .val (.int (1 : Int32)), .val (.ref wN), .unset, .unset, .unset, .unset] [(.ref b158), (.ref b158)])) _
        refine XS.iconst X158.here hx rfl (hb hby at_49) ?_
        show Steps p.tables e below (T158.setTop (mkF m 50 #[.val (.int p1), .val (.int p2), .val (.int p3), .val (.int p4), .val (.int (4 : Int32)), .val (.ref w_DEVICE_ID), .val (.int (1 : Int32)), .val (.ref wN), .unset, .unset, .unset, .unset] [(.int (0 : Int32)), (.ref b158), (.ref b158)])) _
        refine XS.iloadN X158.here hx rfl (hb hby at_50) rfl ?_
        show Steps p.tables e below (T158.setTop (mkF m 51 #[.val (.int p1), .val (.int p2), .val (.int p3), .val (.int p4), .val (.int (4 : Int32)), .val (.ref w_DEVICE_ID), .val (.int (1 : Int32)), .val (.ref wN), .unset, .unset, .unset, .unset] [(.int p3), (.int (0 : Int32)), (.ref b158), (.ref b158)])) _
        refine XS.sipush X158.here hx rfl (hb hby at_51) ?_
        show Steps p.tables e below (T158.setTop (mkF m 54 #[.val (.int p1), .val (.int p2), .val (.int p3), .val (.int p4), .val (.int (4 : Int32)), .val (.ref w_DEVICE_ID), .val (.int (1 : Int32)), .val (.ref wN), .unset, .unset, .unset, .unset] [(.int (255 : Int32)), (.int p3), (.int (0 : Int32)), (.ref b158), (.ref b158)])) _
        refine XS.iand X158.here hx rfl (hb hby at_54) rfl ?_
        show Steps p.tables e below (T158.setTop (mkF m 55 #[.val (.int p1), .val (.int p2), .val (.int p3), .val (.int p4), .val (.int (4 : Int32)), .val (.ref w_DEVICE_ID), .val (.int (1 : Int32)), .val (.ref wN), .unset, .unset, .unset, .unset] [(.int (p3 &&& (255 : Int32))), (.int (0 : Int32)), (.ref b158), (.ref b158)])) _
        refine XS.i2c X158.here hx rfl (hb hby at_55) rfl ?_
        show Steps p.tables e below (T158.setTop (mkF m 56 #[.val (.int p1), .val (.int p2), .val (.int p3), .val (.int p4), .val (.int (4 : Int32)), .val (.ref w_DEVICE_ID), .val (.int (1 : Int32)), .val (.ref wN), .unset, .unset, .unset, .unset] [(.int ((p3 &&& (255 : Int32)).toUInt32.toUInt16.toUInt32.toInt32)), (.int (0 : Int32)), (.ref b158), (.ref b158)])) _
        refine st159 _ ?_
        show Steps p.tables e below (T159.setTop (mkF m 57 #[.val (.int p1), .val (.int p2), .val (.int p3), .val (.int p4), .val (.int (4 : Int32)), .val (.ref w_DEVICE_ID), .val (.int (1 : Int32)), .val (.ref wN), .unset, .unset, .unset, .unset] [(.ref b158)])) _
        refine XS.astore X159.here hx rfl (hb hby at_57) rfl rfl (l' := #[.val (.int p1), .val (.int p2), .val (.int p3), .val (.int p4), .val (.int (4 : Int32)), .val (.ref w_DEVICE_ID), .val (.int (1 : Int32)), .val (.ref wN), .val (.ref b158), .unset, .unset, .unset]) rfl ?_
        show Steps p.tables e below (T159.setTop (mkF m 59 #[.val (.int p1), .val (.int p2), .val (.int p3), .val (.int p4), .val (.int (4 : Int32)), .val (.ref w_DEVICE_ID), .val (.int (1 : Int32)), .val (.ref wN), .val (.ref b158), .unset, .unset, .unset] [])) _
        refine st160 _ ?_
        show Steps p.tables e below (T160.setTop (mkF m 62 #[.val (.int p1), .val (.int p2), .val (.int p3), .val (.int p4), .val (.int (4 : Int32)), .val (.ref w_DEVICE_ID), .val (.int (1 : Int32)), .val (.ref wN), .val (.ref b158), .unset, .unset, .unset] [(.ref b160)])) _
        refine XS.dup X160.here hx rfl (hb hby at_62) rfl rfl ?_
        show Steps p.tables e below (T160.setTop (mkF m 63 #[.val (.int p1), .val (.int p2), .val (.int p3), .val (.int p4), .val (.int (4 : Int32)), .val (.ref w_DEVICE_ID), .val (.int (1 : Int32)), .val (.ref wN), .val (.ref b158), .unset, .unset, .unset] [(.ref b160), (.ref b160)])) _
        refine XS.aload X160.here hx rfl (hb hby at_63) rfl rfl ?_
        show Steps p.tables e below (T160.setTop (mkF m 65 #[.val (.int p1), .val (.int p2), .val (.int p3), .val (.int p4), .val (.int (4 : Int32)), .val (.ref w_DEVICE_ID), .val (.int (1 : Int32)), .val (.ref wN), .val (.ref b158), .unset, .unset, .unset] [(.ref wN), (.ref b160), (.ref b160)])) _
        refine st162 _ ?_
        show Steps p.tables e below (T162.setTop (mkF m 68 #[.val (.int p1), .val (.int p2), .val (.int p3), .val (.int p4), .val (.int (4 : Int32)), .val (.ref w_DEVICE_ID), .val (.int (1 : Int32)), .val (.ref wN), .val (.ref b158), .unset, .unset, .unset] [(.ref b162), (.ref wN), (.ref b160), (.ref b160)])) _
        refine XS.dup X162.here hx rfl (hb hby at_68) rfl rfl ?_
        show Steps p.tables e below (T162.setTop (mkF m 69 #[.val (.int p1), .val (.int p2), .val (.int p3), .val (.int p4), .val (.int (4 : Int32)), .val (.ref w_DEVICE_ID), .val (.int (1 : Int32)), .val (.ref wN), .val (.ref b158), .unset, .unset, .unset] [(.ref b162), (.ref b162), (.ref wN), (.ref b160), (.ref b160)])) _
        refine XS.aload X162.here hx rfl (hb hby at_69) rfl rfl ?_
        show Steps p.tables e below (T162.setTop (mkF m 71 #[.val (.int p1), .val (.int p2), .val (.int p3), .val (.int p4), .val (.int (4 : Int32)), .val (.ref w_DEVICE_ID), .val (.int (1 : Int32)), .val (.ref wN), .val (.ref b158), .unset, .unset, .unset] [(.ref b158), (.ref b162), (.ref b162), (.ref wN), (.ref b160), (.ref b160)])) _
        refine st165.trans ?_
        show Steps p.tables e below (T165.setTop (mkF m 74 #[.val (.int p1), .val (.int p2), .val (.int p3), .val (.int p4), .val (.int (4 : Int32)), .val (.ref w_DEVICE_ID), .val (.int (1 : Int32)), .val (.ref wN), .val (.ref b158), .unset, .unset, .unset] [(.ref b162), (.ref wN), (.ref b160), (.ref b160)])) _
        refine XS.iloadN X165.here hx rfl (hb hby at_74) rfl ?_
        show Steps p.tables e below (T165.setTop (mkF m 75 #[.val (.int p1), .val (.int p2), .val (.int p3), .val (.int p4), .val (.int (4 : Int32)), .val (.ref w_DEVICE_ID), .val (.int (1 : Int32)), .val (.ref wN), .val (.ref b158), .unset, .unset, .unset] [(.int p4), (.ref b162), (.ref wN), (.ref b160), (.ref b160)])) _
        refine X165.ldcInt hx hown (mvT hZ (hw _ (List.mem_of_getElem? (i := 0) rfl))) (g := (mkF m 75 #[.val (.int p1), .val (.int p2), .val (.int p3), .val (.int p4), .val (.int (4 : Int32)), .val (.ref w_DEVICE_ID), .val (.int (1 : Int32)), .val (.ref wN), .val (.ref b158), .unset, .unset, .unset] [(.int p4), (.ref b162), (.ref wN), (.ref b160), (.ref b160)])) rfl (hb hby at_75) _ ?_
        show Steps p.tables e below (T165.setTop (mkF m 77 #[.val (.int p1), .val (.int p2), .val (.int p3), .val (.int p4), .val (.int (4 : Int32)), .val (.ref w_DEVICE_ID), .val (.int (1 : Int32)), .val (.ref wN), .val (.ref b158), .unset, .unset, .unset] [(.int (2147483647 : Int32)), (.int p4), (.ref b162), (.ref wN), (.ref b160), (.ref b160)])) _
        refine XS.iand X165.here hx rfl (hb hby at_77) rfl ?_
        show Steps p.tables e below (T165.setTop (mkF m 78 #[.val (.int p1), .val (.int p2), .val (.int p3), .val (.int p4), .val (.int (4 : Int32)), .val (.ref w_DEVICE_ID), .val (.int (1 : Int32)), .val (.ref wN), .val (.ref b158), .unset, .unset, .unset] [(.int (p4 &&& (2147483647 : Int32))), (.ref b162), (.ref wN), (.ref b160), (.ref b160)])) _
        refine st170.trans ?_
        show Steps p.tables e below (T170.setTop (mkF m 81 #[.val (.int p1), .val (.int p2), .val (.int p3), .val (.int p4), .val (.int (4 : Int32)), .val (.ref w_DEVICE_ID), .val (.int (1 : Int32)), .val (.ref wN), .val (.ref b158), .unset, .unset, .unset] [(.ref b160)])) _
        refine XS.astore X170'.here hx rfl (hb hby at_81) rfl rfl (l' := #[.val (.int p1), .val (.int p2), .val (.int p3), .val (.int p4), .val (.int (4 : Int32)), .val (.ref w_DEVICE_ID), .val (.int (1 : Int32)), .val (.ref wN), .val (.ref b158), .val (.ref b160), .unset, .unset]) rfl ?_
        show Steps p.tables e below (T170.setTop (mkF m 83 #[.val (.int p1), .val (.int p2), .val (.int p3), .val (.int p4), .val (.int (4 : Int32)), .val (.ref w_DEVICE_ID), .val (.int (1 : Int32)), .val (.ref wN), .val (.ref b158), .val (.ref b160), .unset, .unset] [])) _
        refine XS.iload X170'.here hx rfl (hb hby at_83) rfl ?_
        show Steps p.tables e below (T170.setTop (mkF m 85 #[.val (.int p1), .val (.int p2), .val (.int p3), .val (.int p4), .val (.int (4 : Int32)), .val (.ref w_DEVICE_ID), .val (.int (1 : Int32)), .val (.ref wN), .val (.ref b158), .val (.ref b160), .unset, .unset] [(.int (4 : Int32))])) _
        refine XS.ifNo X170'.here hx rfl (hb hby at_85) rfl ((if0 _ _).trans (feq (by decide : ¬ ((4 : Int32) = (0 : Int32)))).1) ?_
        show Steps p.tables e below (T170.setTop (mkF m 88 #[.val (.int p1), .val (.int p2), .val (.int p3), .val (.int p4), .val (.int (4 : Int32)), .val (.ref w_DEVICE_ID), .val (.int (1 : Int32)), .val (.ref wN), .val (.ref b158), .val (.ref b160), .unset, .unset] [])) _
        refine XS.iload X170'.here hx rfl (hb hby at_88) rfl ?_
        show Steps p.tables e below (T170.setTop (mkF m 90 #[.val (.int p1), .val (.int p2), .val (.int p3), .val (.int p4), .val (.int (4 : Int32)), .val (.ref w_DEVICE_ID), .val (.int (1 : Int32)), .val (.ref wN), .val (.ref b158), .val (.ref b160), .unset, .unset] [(.int (4 : Int32))])) _
        refine XS.iconst X170'.here hx rfl (hb hby at_90) ?_
        show Steps p.tables e below (T170.setTop (mkF m 91 #[.val (.int p1), .val (.int p2), .val (.int p3), .val (.int p4), .val (.int (4 : Int32)), .val (.ref w_DEVICE_ID), .val (.int (1 : Int32)), .val (.ref wN), .val (.ref b158), .val (.ref b160), .unset, .unset] [(.int (5 : Int32)), (.int (4 : Int32))])) _
        refine XS.icmpYes X170'.here hx rfl (pc0 := 91) (pc' := 98) rfl (hb hby at_91) rfl (feq (by decide : ¬ ((4 : Int32) = (5 : Int32)))).2 (by decide) (by decide) ?_
        show Steps p.tables e below (T170.setTop (mkF m 98 #[.val (.int p1), .val (.int p2), .val (.int p3), .val (.int p4), .val (.int (4 : Int32)), .val (.ref w_DEVICE_ID), .val (.int (1 : Int32)), .val (.ref wN), .val (.ref b158), .val (.ref b160), .unset, .unset] [])) _
        refine XS.iconst X170'.here hx rfl (hb hby at_98) ?_
        show Steps p.tables e below (T170.setTop (mkF m 99 #[.val (.int p1), .val (.int p2), .val (.int p3), .val (.int p4), .val (.int (4 : Int32)), .val (.ref w_DEVICE_ID), .val (.int (1 : Int32)), .val (.ref wN), .val (.ref b158), .val (.ref b160), .unset, .unset] [(.int (0 : Int32))])) _
        refine XS.istore X170'.here hx rfl (hb hby at_99) rfl (l' := #[.val (.int p1), .val (.int p2), .val (.int p3), .val (.int p4), .val (.int (4 : Int32)), .val (.ref w_DEVICE_ID), .val (.int (1 : Int32)), .val (.ref wN), .val (.ref b158), .val (.ref b160), .val (.int (0 : Int32)), .unset]) rfl ?_
        show Steps p.tables e below (T170.setTop (mkF m 101 #[.val (.int p1), .val (.int p2), .val (.int p3), .val (.int p4), .val (.int (4 : Int32)), .val (.ref w_DEVICE_ID), .val (.int (1 : Int32)), .val (.ref wN), .val (.ref b158), .val (.ref b160), .val (.int (0 : Int32)), .unset] [])) _
        refine XS.iload X170'.here hx rfl (hb hby at_101) rfl ?_
        show Steps p.tables e below (T170.setTop (mkF m 103 #[.val (.int p1), .val (.int p2), .val (.int p3), .val (.int p4), .val (.int (4 : Int32)), .val (.ref w_DEVICE_ID), .val (.int (1 : Int32)), .val (.ref wN), .val (.ref b158), .val (.ref b160), .val (.int (0 : Int32)), .unset] [(.int (0 : Int32))])) _
        refine XS.iload X170'.here hx rfl (hb hby at_103) rfl ?_
        show Steps p.tables e below (T170.setTop (mkF m 105 #[.val (.int p1), .val (.int p2), .val (.int p3), .val (.int p4), .val (.int (4 : Int32)), .val (.ref w_DEVICE_ID), .val (.int (1 : Int32)), .val (.ref wN), .val (.ref b158), .val (.ref b160), .val (.int (0 : Int32)), .unset] [(.int (1 : Int32)), (.int (0 : Int32))])) _
        refine XS.icmpYes X170'.here hx rfl (pc0 := 105) (pc' := 112) rfl (hb hby at_105) rfl (feq (by decide : ¬ ((0 : Int32) = (1 : Int32)))).2 (by decide) (by decide) ?_
        show Steps p.tables e below (T170.setTop (mkF m 112 #[.val (.int p1), .val (.int p2), .val (.int p3), .val (.int p4), .val (.int (4 : Int32)), .val (.ref w_DEVICE_ID), .val (.int (1 : Int32)), .val (.ref wN), .val (.ref b158), .val (.ref b160), .val (.int (0 : Int32)), .unset] [])) _
        refine XS.iconst X170'.here hx rfl (hb hby at_112) ?_
        show Steps p.tables e below (T170.setTop (mkF m 113 #[.val (.int p1), .val (.int p2), .val (.int p3), .val (.int p4), .val (.int (4 : Int32)), .val (.ref w_DEVICE_ID), .val (.int (1 : Int32)), .val (.ref wN), .val (.ref b158), .val (.ref b160), .val (.int (0 : Int32)), .unset] [(.int (0 : Int32))])) _
        refine XS.istore X170'.here hx rfl (hb hby at_113) rfl (l' := #[.val (.int p1), .val (.int p2), .val (.int p3), .val (.int p4), .val (.int (4 : Int32)), .val (.ref w_DEVICE_ID), .val (.int (1 : Int32)), .val (.ref wN), .val (.ref b158), .val (.ref b160), .val (.int (0 : Int32)), .val (.int (0 : Int32))]) rfl ?_
        show Steps p.tables e below (T170.setTop (mkF m 115 #[.val (.int p1), .val (.int p2), .val (.int p3), .val (.int p4), .val (.int (4 : Int32)), .val (.ref w_DEVICE_ID), .val (.int (1 : Int32)), .val (.ref wN), .val (.ref b158), .val (.ref b160), .val (.int (0 : Int32)), .val (.int (0 : Int32))] [])) _
        refine XS.aload X170'.here hx rfl (hb hby at_115) rfl rfl ?_
        show Steps p.tables e below (T170.setTop (mkF m 117 #[.val (.int p1), .val (.int p2), .val (.int p3), .val (.int p4), .val (.int (4 : Int32)), .val (.ref w_DEVICE_ID), .val (.int (1 : Int32)), .val (.ref wN), .val (.ref b158), .val (.ref b160), .val (.int (0 : Int32)), .val (.int (0 : Int32))] [(.ref w_DEVICE_ID)])) _
        refine XS.aload X170'.here hx rfl (hb hby at_117) rfl rfl ?_
        show Steps p.tables e below (T170.setTop (mkF m 119 #[.val (.int p1), .val (.int p2), .val (.int p3), .val (.int p4), .val (.int (4 : Int32)), .val (.ref w_DEVICE_ID), .val (.int (1 : Int32)), .val (.ref wN), .val (.ref b158), .val (.ref b160), .val (.int (0 : Int32)), .val (.int (0 : Int32))] [(.ref b160), (.ref w_DEVICE_ID)])) _
        refine st171.trans ?_
        show Steps p.tables e below (T171.setTop (mkF m 122 #[.val (.int p1), .val (.int p2), .val (.int p3), .val (.int p4), .val (.int (4 : Int32)), .val (.ref w_DEVICE_ID), .val (.int (1 : Int32)), .val (.ref wN), .val (.ref b158), .val (.ref b160), .val (.int (0 : Int32)), .val (.int (0 : Int32))] [(.int (0 : Int32))])) _
        refine XS.iload X171.here hx rfl (hb hby at_122) rfl ?_
        show Steps p.tables e below (T171.setTop (mkF m 124 #[.val (.int p1), .val (.int p2), .val (.int p3), .val (.int p4), .val (.int (4 : Int32)), .val (.ref w_DEVICE_ID), .val (.int (1 : Int32)), .val (.ref wN), .val (.ref b158), .val (.ref b160), .val (.int (0 : Int32)), .val (.int (0 : Int32))] [(.int (0 : Int32)), (.int (0 : Int32))])) _
        refine XS.icmpNo X171.here hx rfl (hb hby at_124) rfl (teq (rfl : (0 : Int32) = (0 : Int32))).2 ?_
        show Steps p.tables e below (T171.setTop (mkF m 127 #[.val (.int p1), .val (.int p2), .val (.int p3), .val (.int p4), .val (.int (4 : Int32)), .val (.ref w_DEVICE_ID), .val (.int (1 : Int32)), .val (.ref wN), .val (.ref b158), .val (.ref b160), .val (.int (0 : Int32)), .val (.int (0 : Int32))] [])) _
        refine XS.iconst X171.here hx rfl (hb hby at_127) ?_
        show Steps p.tables e below (T171.setTop (mkF m 128 #[.val (.int p1), .val (.int p2), .val (.int p3), .val (.int p4), .val (.int (4 : Int32)), .val (.ref w_DEVICE_ID), .val (.int (1 : Int32)), .val (.ref wN), .val (.ref b158), .val (.ref b160), .val (.int (0 : Int32)), .val (.int (0 : Int32))] [(.int (1 : Int32))])) _
        refine XS.goto X171.here hx rfl (pc0 := 128) (pc' := 132) rfl (hb hby at_128) (by decide) (by decide) ?_
        show Steps p.tables e below (T171.setTop (mkF m 132 #[.val (.int p1), .val (.int p2), .val (.int p3), .val (.int p4), .val (.int (4 : Int32)), .val (.ref w_DEVICE_ID), .val (.int (1 : Int32)), .val (.ref wN), .val (.ref b158), .val (.ref b160), .val (.int (0 : Int32)), .val (.int (0 : Int32))] [(.int (1 : Int32))])) _
        exact retN X171 hx (t := .boolean) Bd.returns (by simp) (hb hby at_132) hr
      · show Q_rm0 Z p1 p2 p3 p4 w_AMOUNT w_CURRENCY w_MERCHANT_ID w_IP_ADDRESS w_DEVICE_ID w_USER_AGE w_USER_REGION wN wS zc h0 n0 _ T171.heap _
        rw [e171]
        exact ⟨rfl, N171⟩
  · have pre172 : ∀ t, Steps p.tables e below (s₁.setTop (mkF m 7 #[.val (.int p1), .val (.int p2), .val (.int p3), .val (.int p4), .unset, .unset, .unset, .unset, .unset, .unset, .unset, .unset] [(.int (5 : Int32))])) t → Steps p.tables e below (s₁.setTop (entryFrame m #[(.int p1), (.int p2), (.int p3), (.int p4)] maxLocals)) t := fun t k => pre1 t (by rw [hk]; exact k)
    obtain ⟨_, _, ⟨T173, L173, k173, n173⟩, -, X173, ⟨Lc173, hQ173, l173, y173, z173⟩, st173⟩ := Jvm.LawKit.callS X0 hx (y := (⟨"com/example/riscontro/riscontro/rules/FieldTakesPinLaw", "pick", "(I)Lcom/example/riscontro/riscontro/rules/Field;"⟩ : MethodName)) hown (mvT hZ (hw _ (List.mem_of_getElem? (i := 1) rfl))) (mvT hZ (hw _ (List.mem_of_getElem? (i := 2) rfl))) (mvT hZ (hw _ (List.mem_of_getElem? (i := 3) rfl))) (mvT hZ (hw _ (List.mem_of_getElem? (i := 4) rfl))) (by decide) (backOf (W := 0) (rm1 l Z a0 hw [] (5 : Int32) w_AMOUNT w_CURRENCY w_MERCHANT_ID w_IP_ADDRESS w_DEVICE_ID w_USER_AGE w_USER_REGION w_USER_AGE h0 n0 Z0 S_AMOUNT S_CURRENCY S_MERCHANT_ID S_IP_ADDRESS S_DEVICE_ID S_USER_AGE S_USER_REGION rfl) hZ (hw _ (List.mem_of_getElem? (i := 4) rfl)) (hw _ (List.mem_of_getElem? (i := 3) rfl)) (by decide) (by decide)) (g := (mkF m 11 #[.val (.int p1), .val (.int p2), .val (.int p3), .val (.int p4), .val (.int (5 : Int32)), .unset, .unset, .unset, .unset, .unset, .unset, .unset] [(.int (5 : Int32))])) rfl (by rw [hml]; rfl) (argsL := [(.int (5 : Int32))]) (rest := []) (lenOf pd_rm0_0 rfl) rfl (by show 2 * 0 + _ ≤ _; exact Nat.le_of_eq rfl) (hb hby at_11) (fun _ _ => ⟨rfl, e0, (by decide : 0 + 0 ≤ _), (by decide : 0 + 0 ≤ _)⟩)
    dsimp only [Pt.U, Pt.locs, Pt.cells, Pt.slots] at X173 l173 y173 z173 st173 hQ173
    subst l173 y173 z173
    obtain ⟨rfl, N173q, e173⟩ := hQ173
    have N173 := Fr.app N0 N173q
    have pre174 : ∀ t, Steps p.tables e below (T173.setTop (mkF m 19 #[.val (.int p1), .val (.int p2), .val (.int p3), .val (.int p4), .val (.int (5 : Int32)), .val (.ref w_USER_AGE), .unset, .unset, .unset, .unset, .unset, .unset] [(.int (p2 &&& (1 : Int32)))])) t → Steps p.tables e below (s₁.setTop (entryFrame m #[(.int p1), (.int p2), (.int p3), (.int p4)] maxLocals)) t := fun t k => pre172 t (by
        show Steps p.tables e below (s₁.setTop (mkF m 7 #[.val (.int p1), .val (.int p2), .val (.int p3), .val (.int p4), .unset, .unset, .unset, .unset, .unset, .unset, .unset, .unset] [(.int (5 : Int32))])) _
        refine XS.istore X0.here hx rfl (hb hby at_7) rfl (l' := #[.val (.int p1), .val (.int p2), .val (.int p3), .val (.int p4), .val (.int (5 : Int32)), .unset, .unset, .unset, .unset, .unset, .unset, .unset]) rfl ?_
        show Steps p.tables e below (s₁.setTop (mkF m 9 #[.val (.int p1), .val (.int p2), .val (.int p3), .val (.int p4), .val (.int (5 : Int32)), .unset, .unset, .unset, .unset, .unset, .unset, .unset] [])) _
        refine XS.iload X0.here hx rfl (hb hby at_9) rfl ?_
        show Steps p.tables e below (s₁.setTop (mkF m 11 #[.val (.int p1), .val (.int p2), .val (.int p3), .val (.int p4), .val (.int (5 : Int32)), .unset, .unset, .unset, .unset, .unset, .unset, .unset] [(.int (5 : Int32))])) _
        refine st173 _ ?_
        show Steps p.tables e below (T173.setTop (mkF m 14 #[.val (.int p1), .val (.int p2), .val (.int p3), .val (.int p4), .val (.int (5 : Int32)), .unset, .unset, .unset, .unset, .unset, .unset, .unset] [(.ref w_USER_AGE)])) _
        refine XS.astore X173.here hx rfl (hb hby at_14) rfl rfl (l' := #[.val (.int p1), .val (.int p2), .val (.int p3), .val (.int p4), .val (.int (5 : Int32)), .val (.ref w_USER_AGE), .unset, .unset, .unset, .unset, .unset, .unset]) rfl ?_
        show Steps p.tables e below (T173.setTop (mkF m 16 #[.val (.int p1), .val (.int p2), .val (.int p3), .val (.int p4), .val (.int (5 : Int32)), .val (.ref w_USER_AGE), .unset, .unset, .unset, .unset, .unset, .unset] [])) _
        refine XS.iloadN X173.here hx rfl (hb hby at_16) rfl ?_
        show Steps p.tables e below (T173.setTop (mkF m 17 #[.val (.int p1), .val (.int p2), .val (.int p3), .val (.int p4), .val (.int (5 : Int32)), .val (.ref w_USER_AGE), .unset, .unset, .unset, .unset, .unset, .unset] [(.int p2)])) _
        refine XS.iconst X173.here hx rfl (hb hby at_17) ?_
        show Steps p.tables e below (T173.setTop (mkF m 18 #[.val (.int p1), .val (.int p2), .val (.int p3), .val (.int p4), .val (.int (5 : Int32)), .val (.ref w_USER_AGE), .unset, .unset, .unset, .unset, .unset, .unset] [(.int (1 : Int32)), (.int p2)])) _
        refine XS.iand X173.here hx rfl (hb hby at_18) rfl ?_
        exact k)
    by_cases hc175 : (p2 &&& (1 : Int32)) = (0 : Int32)
    · obtain ⟨T176, X176, e176, st176⟩ := getS2 X173 hx hZ hown (host := "") (Or.inl (hw _ (List.mem_of_getElem? (i := 84) rfl))) Via.refl e173 S_STRING (g := (mkF m 40 #[.val (.int p1), .val (.int p2), .val (.int p3), .val (.int p4), .val (.int (5 : Int32)), .val (.ref w_USER_AGE), .val (.int (0 : Int32)), .unset, .unset, .unset, .unset, .unset] [])) rfl (hb hby at_40)
      obtain ⟨T177, h177, k177, X177, e177, E177, A177, st177⟩ := newP X176 hx hZ (hw _ (List.mem_of_getElem? (i := 11) rfl)) e176 (g := (mkF m 46 #[.val (.int p1), .val (.int p2), .val (.int p3), .val (.int p4), .val (.int (5 : Int32)), .val (.ref w_USER_AGE), .val (.int (0 : Int32)), .val (.ref wS), .unset, .unset, .unset, .unset] [(.int (1 : Int32))])) rfl (hb hby at_46) rfl (by decide) (cap := 1) (by decide) (by decide) (by decide) (by decide)
      obtain ⟨b177, g177⟩ : ∃ z, z = h0.size := ⟨_, rfl⟩
      rw [← g177] at A177 st177
      have V_b177 : Arv Z h177 b177 k177 .char (1 : Int32) [(.int (0 : Int32))] (.int (0 : Int32)) := (Arv.new A177 (by decide)).pad (pad_rep [] (.int (0 : Int32)) 1)
      have g_b177 : n0 ≤ b177 := Nat.le_trans Z0 (Nat.le_of_eq g177.symm)
      have sz_b177 : h0.size ≤ b177 := Nat.le_trans ((Keep.refl h0 [])).1 (Nat.le_of_eq g177.symm)
      have K177 : Keep h0 h177 [] := ((Keep.refl h0 [])).ext E177
      obtain ⟨cl178, Ar178, q178, S178, N178_, H178, G178⟩ := id V_b177
      obtain ⟨T178, h178, X178, e178, W178, st178⟩ := stC X177 hx hZ e177 Ar178 (j := (0 : Int32)) (inb_of S178 ⟨by decide, by decide⟩) (g := (mkF m 56 #[.val (.int p1), .val (.int p2), .val (.int p3), .val (.int p4), .val (.int (5 : Int32)), .val (.ref w_USER_AGE), .val (.int (0 : Int32)), .val (.ref wS), .unset, .unset, .unset, .unset] [(.int ((p3 &&& (255 : Int32)).toUInt32.toUInt16.toUInt32.toInt32)), (.int (0 : Int32)), (.ref b177), (.ref b177)])) rfl rfl (hb hby at_56)
      have V178 := Arv.set Ar178 q178 S178 N178_ H178 G178 (fits_nar_char _) W178 0 rfl (Nat.le_of_ble_eq_true rfl)
      have K178 : Keep h0 h178 [] := (K177).wr W178 (Or.inr sz_b177)
      have N178 := Fr.snoc X178 N173 g_b177
      obtain ⟨T179, h179, X179, e179, E179, A179, D179, -, st179⟩ := newO X178 hx hZ hown (hw _ (List.mem_of_getElem? (i := 12) rfl)) (hw _ (List.mem_of_getElem? (i := 13) rfl)) (hw _ (List.mem_of_getElem? (i := 14) rfl)) e178 (g := (mkF m 59 #[.val (.int p1), .val (.int p2), .val (.int p3), .val (.int p4), .val (.int (5 : Int32)), .val (.ref w_USER_AGE), .val (.int (0 : Int32)), .val (.ref wS), .val (.ref b177), .unset, .unset, .unset] [])) rfl (hb hby at_59) (by decide) (by decide)
      obtain ⟨b179, g179⟩ : ∃ z, z = h178.size := ⟨_, rfl⟩
      rw [← g179] at A179 D179 st179
      have ne_b177_b179 : b177 ≠ b179 := Nat.ne_of_lt (Nat.lt_of_lt_of_le V178.lt (Nat.le_of_eq g179.symm))
      have g_b179 : n0 ≤ b179 := Nat.le_trans (Nat.le_trans Z0 K178.1) (Nat.le_of_eq g179.symm)
      have sz_b179 : h0.size ≤ b179 := Nat.le_trans (K178).1 (Nat.le_of_eq g179.symm)
      have K179 : Keep h0 h179 [] := (K178).ext E179
      have F179_kind : Fld Z h179 b179 "com/example/riscontro/riscontro/rules/Token" "kind" "Lcom/example/riscontro/riscontro/rules/Token$Kind;" .null := D179 (Or.inr (hw _ (List.mem_of_getElem? (i := 62) rfl))) (ty := (.object "com/example/riscontro/riscontro/rules/Token$Kind")) (by decide)
      have F179_text : Fld Z h179 b179 "com/example/riscontro/riscontro/rules/Token" "text" "Ljava/lang/String;" .null := D179 (Or.inr (hw _ (List.mem_of_getElem? (i := 64) rfl))) (ty := (.object "java/lang/String")) (by decide)
      have F179_start : Fld Z h179 b179 "com/example/riscontro/riscontro/rules/Token" "start" "I" (.int (0 : Int32)) := D179 (Or.inr (hw _ (List.mem_of_getElem? (i := 66) rfl))) (ty := .int) (by decide)
      have f180 := (V178.ext E179)
      obtain ⟨T181, h181, X181, e181, E181, A181, D181, -, st181⟩ := newO X179 hx hZ hown (hw _ (List.mem_of_getElem? (i := 15) rfl)) (hw _ (List.mem_of_getElem? (i := 16) rfl)) (hw _ (List.mem_of_getElem? (i := 17) rfl)) e179 (g := (mkF m 65 #[.val (.int p1), .val (.int p2), .val (.int p3), .val (.int p4), .val (.int (5 : Int32)), .val (.ref w_USER_AGE), .val (.int (0 : Int32)), .val (.ref wS), .val (.ref b177), .unset, .unset, .unset] [(.ref wS), (.ref b179), (.ref b179)])) rfl (hb hby at_65) (by decide) (by decide)
      obtain ⟨b181, g181⟩ : ∃ z, z = h179.size := ⟨_, rfl⟩
      rw [← g181] at A181 D181 st181
      have ne_b177_b181 : b177 ≠ b181 := Nat.ne_of_lt (Nat.lt_of_lt_of_le f180.lt (Nat.le_of_eq g181.symm))
      have ne_b179_b181 : b179 ≠ b181 := Nat.ne_of_lt (Nat.lt_of_lt_of_le A179.lt (Nat.le_of_eq g181.symm))
      have g_b181 : n0 ≤ b181 := Nat.le_trans (Nat.le_trans Z0 K179.1) (Nat.le_of_eq g181.symm)
      have sz_b181 : h0.size ≤ b181 := Nat.le_trans (K179).1 (Nat.le_of_eq g181.symm)
      have K181 : Keep h0 h181 [] := (K179).ext E181
      have F181_coder : Fld Z h181 b181 "java/lang/String" "coder" "B" (.int (0 : Int32)) := D181 (Or.inr (hw _ (List.mem_of_getElem? (i := 41) rfl))) (ty := .byte) (by decide)
      have F181_value : Fld Z h181 b181 "java/lang/String" "value" "[B" .null := D181 (Or.inr (hw _ (List.mem_of_getElem? (i := 43) rfl))) (ty := (.array .byte)) (by decide)
      have f182 := (f180.ext E181)
      have V183 : Arv Z h181 b177 _ .char (1 : Int32) (([nar .char ((p3 &&& (255 : Int32)).toUInt32.toUInt16.toUInt32.toInt32)] : List Int32).map Value.int) (.int (0 : Int32)) := f182
      have hws : ∀ d ∈ StrChars.Road.words, d.before a0 Z = true := fun d hd => hw d ((by decide +kernel : ∀ d ∈ StrChars.Road.words, d ∈ tables_1) d hd)
      obtain ⟨_, _, ⟨T184, L184, k184, n184⟩, -, X184, ⟨Lc184, hQ184, l184, y184, z184⟩, st184⟩ := X181.specialBack hx (y := (⟨"java/lang/String", "<init>", "([C)V"⟩ : MethodName)) rfl hown (mvT hZ (hw _ (List.mem_of_getElem? (i := 18) rfl))) (mvT hZ (hw _ (List.mem_of_getElem? (i := 19) rfl))) (mvT hZ (hw _ (List.mem_of_getElem? (i := 20) rfl))) (by decide) (StrChars.Road.backV (W := 4) hZ hws (kI := 4) (hw _ (List.mem_of_getElem? (i := 16) rfl)) (cs := [nar .char ((p3 &&& (255 : Int32)).toUInt32.toUInt16.toUInt32.toInt32)]) (bs := ([nar .char ((p3 &&& (255 : Int32)).toUInt32.toUInt16.toUInt32.toInt32)] : List Int32).map (fun c => c.toInt8.toInt32)) (n := 1) g_b181 (Nat.le_trans Z0 K181.1) A181 F181_value F181_coder V183 (Sta.ext (own_keep_ext K181) S_C) hzc rfl rfl (by decide) (by decide) (own_chrb p3) rfl (by decide) (by decide)) (g := (mkF m 71 #[.val (.int p1), .val (.int p2), .val (.int p3), .val (.int p4), .val (.int (5 : Int32)), .val (.ref w_USER_AGE), .val (.int (0 : Int32)), .val (.ref wS), .val (.ref b177), .unset, .unset, .unset] [(.ref b177), (.ref b181), (.ref b181), (.ref wS), (.ref b179), (.ref b179)])) rfl (by rw [hml]; rfl) (Steps.refl _) (a := b181) (argsL := [(.ref b177)]) (rest := [(.ref b181), (.ref wS), (.ref b179), (.ref b179)]) (lenOf pd_rm0_1 rfl) rfl (by show 2 * 0 + _ ≤ _; exact Nat.le_of_eq rfl) (hb hby at_71) (fun _ _ => ⟨rfl, e181, (by decide : 3 + 1 ≤ _), (by decide : 8 + 1 ≤ _)⟩)
      dsimp only [Pt.U, Pt.locs, Pt.cells, Pt.slots] at X184 l184 y184 z184 st184 hQ184
      subst l184 y184 z184
      obtain ⟨rfl, N184q, K184q, A184q, C184q, t184, k184, g1841, g1842, g1843, F184q, B184q⟩ := hQ184
      have N184 := Fr.app N178 N184q
      have K184 : Keep h0 T184.heap [] := (K181).trans K184q (allS (Or.inr sz_b181) all0)
      have f185 := ((Exa.ext E181 A179).keep K184q)
      have f186 := ((Fld.ext E181 F179_kind).keep K184q (ninS ne_b179_b181 nin0))
      have f187 := ((Fld.ext E181 F179_text).keep K184q (ninS ne_b179_b181 nin0))
      have f188 := ((Fld.ext E181 F179_start).keep K184q (ninS ne_b179_b181 nin0))
      obtain ⟨_, _, ⟨T189, L189, k189, n189⟩, -, X189, hS2_189, hg_189, ⟨Lc189, hQ189, l189, y189, z189⟩, st189⟩ := X184.specialBackS hx (y := (⟨"com/example/riscontro/riscontro/rules/Token", "<init>", "(Lcom/example/riscontro/riscontro/rules/Token$Kind;Ljava/lang/String;I)V"⟩ : MethodName)) rfl hown (mvT hZ (hw _ (List.mem_of_getElem? (i := 44) rfl))) (mvT hZ (hw _ (List.mem_of_getElem? (i := 45) rfl))) (mvT hZ (hw _ (List.mem_of_getElem? (i := 46) rfl))) (by decide) (backOfS (W := 1) (rmT l Z a0 hw [] b179 wS b181 (p4 &&& (2147483647 : Int32)) T184.heap n0 (Nat.le_trans Z0 K184.1) f185 f186 f187 f188 g_b179 (own_start p4)) hZ (hw _ (List.mem_of_getElem? (i := 46) rfl)) (hw _ (List.mem_of_getElem? (i := 14) rfl)) (by decide) (by decide)) (g := (mkF m 78 #[.val (.int p1), .val (.int p2), .val (.int p3), .val (.int p4), .val (.int (5 : Int32)), .val (.ref w_USER_AGE), .val (.int (0 : Int32)), .val (.ref wS), .val (.ref b177), .unset, .unset, .unset] [(.int (p4 &&& (2147483647 : Int32))), (.ref b181), (.ref wS), (.ref b179), (.ref b179)])) rfl (by rw [hml]; rfl) (Steps.refl _) (a := b179) (argsL := [(.ref wS), (.ref b181), (.int (p4 &&& (2147483647 : Int32)))]) (rest := [(.ref b179)]) (lenOf pd_rm0_2 rfl) rfl (by show 2 * 0 + _ ≤ _; exact Nat.le_of_eq rfl) (hb hby at_78) (fun _ _ => ⟨rfl, rfl, (by decide : 4 + 4 ≤ _), (by decide : 9 + 40 ≤ _)⟩)
      dsimp only [Pt.U, Pt.locs, Pt.cells, Pt.slots] at X189 l189 y189 z189 st189 hQ189
      subst l189 y189 z189
      obtain ⟨X189', hS189', hZ189', hown189'⟩ := rebS (s := s) (vm0 := s.vm) hS0 (show _ ≤ T184.heap.size by exact (Nat.le_trans (Nat.le_trans (Nat.le_trans (Nat.le_trans (Nat.le_trans (Nat.zero_le _) (E177).1) (Keep.of_wr W178).1) (E179).1) (E181).1) (K184q).1)) X189 hS2_189 hg_189 hZ hown
      obtain ⟨rfl, N189q, K189q, A189q, G189q⟩ := hQ189
      have N189 := Fr.app N184 N189q
      have K189 : Keep h0 T189.heap [] := (K184).trans K189q (allS (Or.inr sz_b179) all0)
      obtain ⟨cq190, kq190, q190a, q190b, q190c⟩ := isOf hZ189' rfl (Exa.ext (own_keep_ext K189) E_USER_AGE)
      obtain ⟨_, _, ⟨T190, L190, k190, n190⟩, -, X190, ⟨Lc190, hQ190, l190, y190, z190⟩, st190⟩ := X189'.virtualBack hx (y := (⟨"com/example/riscontro/riscontro/rules/Field", "takes", "(Lcom/example/riscontro/riscontro/rules/Token;)Z"⟩ : MethodName)) (z := (⟨"com/example/riscontro/riscontro/rules/Field", "takes", "(Lcom/example/riscontro/riscontro/rules/Token;)Z"⟩ : MethodName)) hown189' (mvT hZ189' (hw _ (List.mem_of_getElem? (i := 67) rfl))) (mvT hZ189' (hw _ (List.mem_of_getElem? (i := 68) rfl))) (notFace_of_selects (args := #[]) (mvT hZ189' (hw _ (List.mem_of_getElem? (i := 70) rfl)))) (mvT hZ189' (hw _ (List.mem_of_getElem? (i := 70) rfl))) (mvT hZ189' (hw _ (List.mem_of_getElem? (i := 69) rfl))) (by decide) (backOf (W := 0) (rmX l Z a0 hw [] w_USER_AGE b179 wN wS (0 : Int32) T189.heap n0 (Nat.le_trans Z0 K189.1) (Fld.ext (own_keep_ext K189) V_USER_AGE) G189q A189q (if_neg hSN)) hZ189' (hw _ (List.mem_of_getElem? (i := 71) rfl)) (hw _ (List.mem_of_getElem? (i := 6) rfl)) (by decide) (by decide)) q190a q190c (g := (mkF m 119 #[.val (.int p1), .val (.int p2), .val (.int p3), .val (.int p4), .val (.int (5 : Int32)), .val (.ref w_USER_AGE), .val (.int (0 : Int32)), .val (.ref wS), .val (.ref b177), .val (.ref b179), .val (.int (1 : Int32)), .val (.int (0 : Int32))] [(.ref b179), (.ref w_USER_AGE)])) rfl (by rw [hml]; rfl) (Steps.refl _) (argsL := [(.ref b179)]) (rest := []) (lenOf pd_rm0_3 rfl) rfl (by show 2 * 0 + _ ≤ _; exact Nat.le_of_eq rfl) (hb hby at_119) (fun _ _ => ⟨rfl, rfl, (by decide : 8 + 0 ≤ _), (by decide : 49 + 0 ≤ _)⟩)
      dsimp only [Pt.U, Pt.locs, Pt.cells, Pt.slots] at X190 l190 y190 z190 st190 hQ190
      subst l190 y190 z190
      obtain ⟨rfl, N190q, e190⟩ := hQ190
      have N190 := Fr.app N189 N190q
      obtain ⟨fs, hr, hrun, hended, hRW⟩ := Jvm.Stand.leaveW (s := s) (vm₁ := T189.vm) X190 hS189' (show _ ≤ T190.heap.size by rw [e190]; exact (Nat.le_refl T189.heap.size)) (v := some (.int (1 : Int32))) (fun h => by rw [Bd.returns] at h; cases h)
      refine ⟨_, _, pre174 _ ?_, hrun, hended, _, _, rfl, ?_, hRW.1, hRW.2.1, hRW.2.2.1, hRW.2.2.2.mono (by decide) (by decide)⟩
      · show Steps p.tables e below (T173.setTop (mkF m 19 #[.val (.int p1), .val (.int p2), .val (.int p3), .val (.int p4), .val (.int (5 : Int32)), .val (.ref w_USER_AGE), .unset, .unset, .unset, .unset, .unset, .unset] [(.int (p2 &&& (1 : Int32)))])) _
        refine XS.ifYes X173.here hx rfl (pc0 := 19) (pc' := 26) rfl (hb hby at_19) rfl ((if0 _ _).trans (teq hc175).1) (by decide) (by decide) ?_
        show Steps p.tables e below (T173.setTop (mkF m 26 #[.val (.int p1), .val (.int p2), .val (.int p3), .val (.int p4), .val (.int (5 : Int32)), .val (.ref w_USER_AGE), .unset, .unset, .unset, .unset, .unset, .unset] [])) _
        refine XS.iconst X173.here hx rfl (hb hby at_26) ?_
        show Steps p.tables e below (T173.setTop (mkF m 27 #[.val (.int p1), .val (.int p2), .val (.int p3), .val (.int p4), .val (.int (5 : Int32)), .val (.ref w_USER_AGE), .unset, .unset, .unset, .unset, .unset, .unset] [(.int (0 : Int32))])) _
        refine XS.istore X173.here hx rfl (hb hby at_27) rfl (l' := #[.val (.int p1), .val (.int p2), .val (.int p3), .val (.int p4), .val (.int (5 : Int32)), .val (.ref w_USER_AGE), .val (.int (0 : Int32)), .unset, .unset, .unset, .unset, .unset]) rfl ?_
        show Steps p.tables e below (T173.setTop (mkF m 29 #[.val (.int p1), .val (.int p2), .val (.int p3), .val (.int p4), .val (.int (5 : Int32)), .val (.ref w_USER_AGE), .val (.int (0 : Int32)), .unset, .unset, .unset, .unset, .unset] [])) _
        refine XS.iload X173.here hx rfl (hb hby at_29) rfl ?_
        show Steps p.tables e below (T173.setTop (mkF m 31 #[.val (.int p1), .val (.int p2), .val (.int p3), .val (.int p4), .val (.int (5 : Int32)), .val (.ref w_USER_AGE), .val (.int (0 : Int32)), .unset, .unset, .unset, .unset, .unset] [(.int (0 : Int32))])) _
        refine XS.ifYes X173.here hx rfl (pc0 := 31) (pc' := 40) rfl (hb hby at_31) rfl ((if0 _ _).trans (teq (rfl : (0 : Int32) = (0 : Int32))).1) (by decide) (by decide) ?_
        show Steps p.tables e below (T173.setTop (mkF m 40 #[.val (.int p1), .val (.int p2), .val (.int p3), .val (.int p4), .val (.int (5 : Int32)), .val (.ref w_USER_AGE), .val (.int (0 : Int32)), .unset, .unset, .unset, .unset, .unset] [])) _
        refine st176 _ ?_
        show Steps p.tables e below (T176.setTop (mkF m 43 #[.val (.int p1), .val (.int p2), .val (.int p3), .val (.int p4), .val (.int (5 : Int32)), .val (.ref w_USER_AGE), .val (.int (0 : Int32)), .unset, .unset, .unset, .unset, .unset] [(.ref wS)])) _
        refine XS.astore X176.here hx rfl (hb hby at_43) rfl rfl (l' := #[.val (.int p1), .val (.int p2), .val (.int p3), .val (.int p4), .val (.int (5 : Int32)), .val (.ref w_USER_AGE), .val (.int (0 : Int32)), .val (.ref wS), .unset, .unset, .unset, .unset]) rfl ?_
        show Steps p.tables e below (T176.setTop (mkF m 45 #[.val (.int p1), .val (.int p2), .val (.int p3), .val (.int p4), .val (.int (5 : Int32)), .val (.ref w_USER_AGE), .val (.int (0 : Int32)), .val (.ref wS), .unset, .unset, .unset, .unset] [])) _
        refine XS.iconst X176.here hx rfl (hb hby at_45) ?_
        show Steps p.tables e below (T176.setTop (mkF m 46 #[.val (.int p1), .val (.int p2), .val (.int p3), .val (.int p4), .val (.int (5 : Int32)), .val (.ref w_USER_AGE), .val (.int (0 : Int32)), .val (.ref wS), .unset, .unset, .unset, .unset] [(.int (1 : Int32))])) _
        refine st177 _ ?_
        show Steps p.tables e below (T177.setTop (mkF m 48 #[.val (.int p1), .val (.int p2), .val (.int p3), .val (.int p4), .val (.int (5 : Int32)), .val (.ref w_USER_AGE), .val (.int (0 : Int32)), .val (.ref wS), .unset, .unset, .unset, .unset] [(.ref b177)])) _
        refine XS.dup X177.here hx rfl (hb hby at_48) rfl rfl ?_
        show Steps p.tables e below (T177.setTop (mkF m 49 #[.val (.int p1), .val (.int p2), .val (.int p3), .val (.int p4), .val (.int (5 : Int32)), .val (.ref w_USER_AGE), .val (.int (0 : Int32)), .val (.ref wS), .unset, .unset, .unset, .unset] [(.ref b177), (.ref b177)])) _
        refine XS.iconst X177.here hx rfl (hb hby at_49) ?_
        show Steps p.tables e below (T177.setTop (mkF m 50 #[.val (.int p1), .val (.int p2), .val (.int p3), .val (.int p4), .val (.int (5 : Int32)), .val (.ref w_USER_AGE), .val (.int (0 : Int32)), .val (.ref wS), .unset, .unset, .unset, .unset] [(.int (0 : Int32)), (.ref b177), (.ref b177)])) _
        refine XS.iloadN X177.here hx rfl (hb hby at_50) rfl ?_
        show Steps p.tables e below (T177.setTop (mkF m 51 #[.val (.int p1), .val (.int p2), .val (.int p3), .val (.int p4), .val (.int (5 : Int32)), .val (.ref w_USER_AGE), .val (.int (0 : Int32)), .val (.ref wS), .unset, .unset, .unset, .unset] [(.int p3), (.int (0 : Int32)), (.ref b177), (.ref b177)])) _
        refine XS.sipush X177.here hx rfl (hb hby at_51) ?_
        show Steps p.tables e below (T177.setTop (mkF m 54 #[.val (.int p1), .val (.int p2), .val (.int p3), .val (.int p4), .val (.int (5 : Int32)), .val (.ref w_USER_AGE), .val (.int (0 : Int32)), .val (.ref wS), .unset, .unset, .unset, .unset] [(.int (255 : Int32)), (.int p3), (.int (0 : Int32)), (.ref b177), (.ref b177)])) _
        refine XS.iand X177.here hx rfl (hb hby at_54) rfl ?_
        show Steps p.tables e below (T177.setTop (mkF m 55 #[.val (.int p1), .val (.int p2), .val (.int p3), .val (.int p4), .val (.int (5 : Int32)), .val (.ref w_USER_AGE), .val (.int (0 : Int32)), .val (.ref wS), .unset, .unset, .unset, .unset] [(.int (p3 &&& (255 : Int32))), (.int (0 : Int32)), (.ref b177), (.ref b177)])) _
        refine XS.i2c X177.here hx rfl (hb hby at_55) rfl ?_
        show Steps p.tables e below (T177.setTop (mkF m 56 #[.val (.int p1), .val (.int p2), .val (.int p3), .val (.int p4), .val (.int (5 : Int32)), .val (.ref w_USER_AGE), .val (.int (0 : Int32)), .val (.ref wS), .unset, .unset, .unset, .unset] [(.int ((p3 &&& (255 : Int32)).toUInt32.toUInt16.toUInt32.toInt32)), (.int (0 : Int32)), (.ref b177), (.ref b177)])) _
        refine st178 _ ?_
        show Steps p.tables e below (T178.setTop (mkF m 57 #[.val (.int p1), .val (.int p2), .val (.int p3), .val (.int p4), .val (.int (5 : Int32)), .val (.ref w_USER_AGE), .val (.int (0 : Int32)), .val (.ref wS), .unset, .unset, .unset, .unset] [(.ref b177)])) _
        refine XS.astore X178.here hx rfl (hb hby at_57) rfl rfl (l' := #[.val (.int p1), .val (.int p2), .val (.int p3), .val (.int p4), .val (.int (5 : Int32)), .val (.ref w_USER_AGE), .val (.int (0 : Int32)), .val (.ref wS), .val (.ref b177), .unset, .unset, .unset]) rfl ?_
        show Steps p.tables e below (T178.setTop (mkF m 59 #[.val (.int p1), .val (.int p2), .val (.int p3), .val (.int p4), .val (.int (5 : Int32)), .val (.ref w_USER_AGE), .val (.int (0 : Int32)), .val (.ref wS), .val (.ref b177), .unset, .unset, .unset] [])) _
        refine st179 _ ?_
        show Steps p.tables e below (T179.setTop (mkF m 62 #[.val (.int p1), .val (.int p2), .val (.int p3), .val (.int p4), .val (.int (5 : Int32)), .val (.ref w_USER_AGE), .val (.int (0 : Int32)), .val (.ref wS), .val (.ref b177), .unset, .unset, .unset] [(.ref b179)])) _
        refine XS.dup X179.here hx rfl (hb hby at_62) rfl rfl ?_
        show Steps p.tables e below (T179.setTop (mkF m 63 #[.val (.int p1), .val (.int p2), .val (.int p3), .val (.int p4), .val (.int (5 : Int32)), .val (.ref w_USER_AGE), .val (.int (0 : Int32)), .val (.ref wS), .val (.ref b177), .unset, .unset, .unset] [(.ref b179), (.ref b179)])) _
        refine XS.aload X179.here hx rfl (hb hby at_63) rfl rfl ?_
        show Steps p.tables e below (T179.setTop (mkF m 65 #[.val (.int p1), .val (.int p2), .val (.int p3), .val (.int p4), .val (.int (5 : Int32)), .val (.ref w_USER_AGE), .val (.int (0 : Int32)), .val (.ref wS), .val (.ref b177), .unset, .unset, .unset] [(.ref wS), (.ref b179), (.ref b179)])) _
        refine st181 _ ?_
        show Steps p.tables e below (T181.setTop (mkF m 68 #[.val (.int p1), .val (.int p2), .val (.int p3), .val (.int p4), .val (.int (5 : Int32)), .val (.ref w_USER_AGE), .val (.int (0 : Int32)), .val (.ref wS), .val (.ref b177), .unset, .unset, .unset] [(.ref b181), (.ref wS), (.ref b179), (.ref b179)])) _
        refine XS.dup X181.here hx rfl (hb hby at_68) rfl rfl ?_
        show Steps p.tables e below (T181.setTop (mkF m 69 #[.val (.int p1), .val (.int p2), .val (.int p3), .val (.int p4), .val (.int (5 : Int32)), .val (.ref w_USER_AGE), .val (.int (0 : Int32)), .val (.ref wS), .val (.ref b177), .unset, .unset, .unset] [(.ref b181), (.ref b181), (.ref wS), (.ref b179), (.ref b179)])) _
        refine XS.aload X181.here hx rfl (hb hby at_69) rfl rfl ?_
        show Steps p.tables e below (T181.setTop (mkF m 71 #[.val (.int p1), .val (.int p2), .val (.int p3), .val (.int p4), .val (.int (5 : Int32)), .val (.ref w_USER_AGE), .val (.int (0 : Int32)), .val (.ref wS), .val (.ref b177), .unset, .unset, .unset] [(.ref b177), (.ref b181), (.ref b181), (.ref wS), (.ref b179), (.ref b179)])) _
        refine st184.trans ?_
        show Steps p.tables e below (T184.setTop (mkF m 74 #[.val (.int p1), .val (.int p2), .val (.int p3), .val (.int p4), .val (.int (5 : Int32)), .val (.ref w_USER_AGE), .val (.int (0 : Int32)), .val (.ref wS), .val (.ref b177), .unset, .unset, .unset] [(.ref b181), (.ref wS), (.ref b179), (.ref b179)])) _
        refine XS.iloadN X184.here hx rfl (hb hby at_74) rfl ?_
        show Steps p.tables e below (T184.setTop (mkF m 75 #[.val (.int p1), .val (.int p2), .val (.int p3), .val (.int p4), .val (.int (5 : Int32)), .val (.ref w_USER_AGE), .val (.int (0 : Int32)), .val (.ref wS), .val (.ref b177), .unset, .unset, .unset] [(.int p4), (.ref b181), (.ref wS), (.ref b179), (.ref b179)])) _
        refine X184.ldcInt hx hown (mvT hZ (hw _ (List.mem_of_getElem? (i := 0) rfl))) (g := (mkF m 75 #[.val (.int p1), .val (.int p2), .val (.int p3), .val (.int p4), .val (.int (5 : Int32)), .val (.ref w_USER_AGE), .val (.int (0 : Int32)), .val (.ref wS), .val (.ref b177), .unset, .unset, .unset] [(.int p4), (.ref b181), (.ref wS), (.ref b179), (.ref b179)])) rfl (hb hby at_75) _ ?_
        show Steps p.tables e below (T184.setTop (mkF m 77 #[.val (.int p1), .val (.int p2), .val (.int p3), .val (.int p4), .val (.int (5 : Int32)), .val (.ref w_USER_AGE), .val (.int (0 : Int32)), .val (.ref wS), .val (.ref b177), .unset, .unset, .unset] [(.int (2147483647 : Int32)), (.int p4), (.ref b181), (.ref wS), (.ref b179), (.ref b179)])) _
        refine XS.iand X184.here hx rfl (hb hby at_77) rfl ?_
        show Steps p.tables e below (T184.setTop (mkF m 78 #[.val (.int p1), .val (.int p2), .val (.int p3), .val (.int p4), .val (.int (5 : Int32)), .val (.ref w_USER_AGE), .val (.int (0 : Int32)), .val (.ref wS), .val (.ref b177), .unset, .unset, .unset] [(.int (p4 &&& (2147483647 : Int32))), (.ref b181), (.ref wS), (.ref b179), (.ref b179)])) _
        refine st189.trans ?_
        show Steps p.tables e below (T189.setTop (mkF m 81 #[.val (.int p1), .val (.int p2), .val (.int p3), .val (.int p4), .val (.int (5 : Int32)), .val (.ref w_USER_AGE), .val (.int (0 : Int32)), .val (.ref wS), .val (.ref b177), .unset, .unset, .unset] [(.ref b179)])) _
        refine XS.astore X189'.here hx rfl (hb hby at_81) rfl rfl (l' := #[.val (.int p1), .val (.int p2), .val (.int p3), .val (.int p4), .val (.int (5 : Int32)), .val (.ref w_USER_AGE), .val (.int (0 : Int32)), .val (.ref wS), .val (.ref b177), .val (.ref b179), .unset, .unset]) rfl ?_
        show Steps p.tables e below (T189.setTop (mkF m 83 #[.val (.int p1), .val (.int p2), .val (.int p3), .val (.int p4), .val (.int (5 : Int32)), .val (.ref w_USER_AGE), .val (.int (0 : Int32)), .val (.ref wS), .val (.ref b177), .val (.ref b179), .unset, .unset] [])) _
        refine XS.iload X189'.here hx rfl (hb hby at_83) rfl ?_
        show Steps p.tables e below (T189.setTop (mkF m 85 #[.val (.int p1), .val (.int p2), .val (.int p3), .val (.int p4), .val (.int (5 : Int32)), .val (.ref w_USER_AGE), .val (.int (0 : Int32)), .val (.ref wS), .val (.ref b177), .val (.ref b179), .unset, .unset] [(.int (5 : Int32))])) _
        refine XS.ifNo X189'.here hx rfl (hb hby at_85) rfl ((if0 _ _).trans (feq (by decide : ¬ ((5 : Int32) = (0 : Int32)))).1) ?_
        show Steps p.tables e below (T189.setTop (mkF m 88 #[.val (.int p1), .val (.int p2), .val (.int p3), .val (.int p4), .val (.int (5 : Int32)), .val (.ref w_USER_AGE), .val (.int (0 : Int32)), .val (.ref wS), .val (.ref b177), .val (.ref b179), .unset, .unset] [])) _
        refine XS.iload X189'.here hx rfl (hb hby at_88) rfl ?_
        show Steps p.tables e below (T189.setTop (mkF m 90 #[.val (.int p1), .val (.int p2), .val (.int p3), .val (.int p4), .val (.int (5 : Int32)), .val (.ref w_USER_AGE), .val (.int (0 : Int32)), .val (.ref wS), .val (.ref b177), .val (.ref b179), .unset, .unset] [(.int (5 : Int32))])) _
        refine XS.iconst X189'.here hx rfl (hb hby at_90) ?_
        show Steps p.tables e below (T189.setTop (mkF m 91 #[.val (.int p1), .val (.int p2), .val (.int p3), .val (.int p4), .val (.int (5 : Int32)), .val (.ref w_USER_AGE), .val (.int (0 : Int32)), .val (.ref wS), .val (.ref b177), .val (.ref b179), .unset, .unset] [(.int (5 : Int32)), (.int (5 : Int32))])) _
        refine XS.icmpNo X189'.here hx rfl (hb hby at_91) rfl (teq (rfl : (5 : Int32) = (5 : Int32))).2 ?_
        show Steps p.tables e below (T189.setTop (mkF m 94 #[.val (.int p1), .val (.int p2), .val (.int p3), .val (.int p4), .val (.int (5 : Int32)), .val (.ref w_USER_AGE), .val (.int (0 : Int32)), .val (.ref wS), .val (.ref b177), .val (.ref b179), .unset, .unset] [])) _
        refine XS.iconst X189'.here hx rfl (hb hby at_94) ?_
        show Steps p.tables e below (T189.setTop (mkF m 95 #[.val (.int p1), .val (.int p2), .val (.int p3), .val (.int p4), .val (.int (5 : Int32)), .val (.ref w_USER_AGE), .val (.int (0 : Int32)), .val (.ref wS), .val (.ref b177), .val (.ref b179), .unset, .unset] [(.int (1 : Int32))])) _
        refine XS.goto X189'.here hx rfl (pc0 := 95) (pc' := 99) rfl (hb hby at_95) (by decide) (by decide) ?_
        show Steps p.tables e below (T189.setTop (mkF m 99 #[.val (.int p1), .val (.int p2), .val (.int p3), .val (.int p4), .val (.int (5 : Int32)), .val (.ref w_USER_AGE), .val (.int (0 : Int32)), .val (.ref wS), .val (.ref b177), .val (.ref b179), .unset, .unset] [(.int (1 : Int32))])) _
        refine XS.istore X189'.here hx rfl (hb hby at_99) rfl (l' := #[.val (.int p1), .val (.int p2), .val (.int p3), .val (.int p4), .val (.int (5 : Int32)), .val (.ref w_USER_AGE), .val (.int (0 : Int32)), .val (.ref wS), .val (.ref b177), .val (.ref b179), .val (.int (1 : Int32)), .unset]) rfl ?_
        show Steps p.tables e below (T189.setTop (mkF m 101 #[.val (.int p1), .val (.int p2), .val (.int p3), .val (.int p4), .val (.int (5 : Int32)), .val (.ref w_USER_AGE), .val (.int (0 : Int32)), .val (.ref wS), .val (.ref b177), .val (.ref b179), .val (.int (1 : Int32)), .unset] [])) _
        refine XS.iload X189'.here hx rfl (hb hby at_101) rfl ?_
        show Steps p.tables e below (T189.setTop (mkF m 103 #[.val (.int p1), .val (.int p2), .val (.int p3), .val (.int p4), .val (.int (5 : Int32)), .val (.ref w_USER_AGE), .val (.int (0 : Int32)), .val (.ref wS), .val (.ref b177), .val (.ref b179), .val (.int (1 : Int32)), .unset] [(.int (1 : Int32))])) _
        refine XS.iload X189'.here hx rfl (hb hby at_103) rfl ?_
        show Steps p.tables e below (T189.setTop (mkF m 105 #[.val (.int p1), .val (.int p2), .val (.int p3), .val (.int p4), .val (.int (5 : Int32)), .val (.ref w_USER_AGE), .val (.int (0 : Int32)), .val (.ref wS), .val (.ref b177), .val (.ref b179), .val (.int (1 : Int32)), .unset] [(.int (0 : Int32)), (.int (1 : Int32))])) _
        refine XS.icmpYes X189'.here hx rfl (pc0 := 105) (pc' := 112) rfl (hb hby at_105) rfl (feq (by decide : ¬ ((1 : Int32) = (0 : Int32)))).2 (by decide) (by decide) ?_
        show Steps p.tables e below (T189.setTop (mkF m 112 #[.val (.int p1), .val (.int p2), .val (.int p3), .val (.int p4), .val (.int (5 : Int32)), .val (.ref w_USER_AGE), .val (.int (0 : Int32)), .val (.ref wS), .val (.ref b177), .val (.ref b179), .val (.int (1 : Int32)), .unset] [])) _
        refine XS.iconst X189'.here hx rfl (hb hby at_112) ?_
        show Steps p.tables e below (T189.setTop (mkF m 113 #[.val (.int p1), .val (.int p2), .val (.int p3), .val (.int p4), .val (.int (5 : Int32)), .val (.ref w_USER_AGE), .val (.int (0 : Int32)), .val (.ref wS), .val (.ref b177), .val (.ref b179), .val (.int (1 : Int32)), .unset] [(.int (0 : Int32))])) _
        refine XS.istore X189'.here hx rfl (hb hby at_113) rfl (l' := #[.val (.int p1), .val (.int p2), .val (.int p3), .val (.int p4), .val (.int (5 : Int32)), .val (.ref w_USER_AGE), .val (.int (0 : Int32)), .val (.ref wS), .val (.ref b177), .val (.ref b179), .val (.int (1 : Int32)), .val (.int (0 : Int32))]) rfl ?_
        show Steps p.tables e below (T189.setTop (mkF m 115 #[.val (.int p1), .val (.int p2), .val (.int p3), .val (.int p4), .val (.int (5 : Int32)), .val (.ref w_USER_AGE), .val (.int (0 : Int32)), .val (.ref wS), .val (.ref b177), .val (.ref b179), .val (.int (1 : Int32)), .val (.int (0 : Int32))] [])) _
        refine XS.aload X189'.here hx rfl (hb hby at_115) rfl rfl ?_
        show Steps p.tables e below (T189.setTop (mkF m 117 #[.val (.int p1), .val (.int p2), .val (.int p3), .val (.int p4), .val (.int (5 : Int32)), .val (.ref w_USER_AGE), .val (.int (0 : Int32)), .val (.ref wS), .val (.ref b177), .val (.ref b179), .val (.int (1 : Int32)), .val (.int (0 : Int32))] [(.ref w_USER_AGE)])) _
        refine XS.aload X189'.here hx rfl (hb hby at_117) rfl rfl ?_
        show Steps p.tables e below (T189.setTop (mkF m 119 #[.val (.int p1), .val (.int p2), .val (.int p3), .val (.int p4), .val (.int (5 : Int32)), .val (.ref w_USER_AGE), .val (.int (0 : Int32)), .val (.ref wS), .val (.ref b177), .val (.ref b179), .val (.int (1 : Int32)), .val (.int (0 : Int32))] [(.ref b179), (.ref w_USER_AGE)])) _
        refine st190.trans ?_
        show Steps p.tables e below (T190.setTop (mkF m 122 #[.val (.int p1), .val (.int p2), .val (.int p3), .val (.int p4), .val (.int (5 : Int32)), .val (.ref w_USER_AGE), .val (.int (0 : Int32)), .val (.ref wS), .val (.ref b177), .val (.ref b179), .val (.int (1 : Int32)), .val (.int (0 : Int32))] [(.int (0 : Int32))])) _
        refine XS.iload X190.here hx rfl (hb hby at_122) rfl ?_
        show Steps p.tables e below (T190.setTop (mkF m 124 #[.val (.int p1), .val (.int p2), .val (.int p3), .val (.int p4), .val (.int (5 : Int32)), .val (.ref w_USER_AGE), .val (.int (0 : Int32)), .val (.ref wS), .val (.ref b177), .val (.ref b179), .val (.int (1 : Int32)), .val (.int (0 : Int32))] [(.int (0 : Int32)), (.int (0 : Int32))])) _
        refine XS.icmpNo X190.here hx rfl (hb hby at_124) rfl (teq (rfl : (0 : Int32) = (0 : Int32))).2 ?_
        show Steps p.tables e below (T190.setTop (mkF m 127 #[.val (.int p1), .val (.int p2), .val (.int p3), .val (.int p4), .val (.int (5 : Int32)), .val (.ref w_USER_AGE), .val (.int (0 : Int32)), .val (.ref wS), .val (.ref b177), .val (.ref b179), .val (.int (1 : Int32)), .val (.int (0 : Int32))] [])) _
        refine XS.iconst X190.here hx rfl (hb hby at_127) ?_
        show Steps p.tables e below (T190.setTop (mkF m 128 #[.val (.int p1), .val (.int p2), .val (.int p3), .val (.int p4), .val (.int (5 : Int32)), .val (.ref w_USER_AGE), .val (.int (0 : Int32)), .val (.ref wS), .val (.ref b177), .val (.ref b179), .val (.int (1 : Int32)), .val (.int (0 : Int32))] [(.int (1 : Int32))])) _
        refine XS.goto X190.here hx rfl (pc0 := 128) (pc' := 132) rfl (hb hby at_128) (by decide) (by decide) ?_
        show Steps p.tables e below (T190.setTop (mkF m 132 #[.val (.int p1), .val (.int p2), .val (.int p3), .val (.int p4), .val (.int (5 : Int32)), .val (.ref w_USER_AGE), .val (.int (0 : Int32)), .val (.ref wS), .val (.ref b177), .val (.ref b179), .val (.int (1 : Int32)), .val (.int (0 : Int32))] [(.int (1 : Int32))])) _
        exact retN X190 hx (t := .boolean) Bd.returns (by simp) (hb hby at_132) hr
      · show Q_rm0 Z p1 p2 p3 p4 w_AMOUNT w_CURRENCY w_MERCHANT_ID w_IP_ADDRESS w_DEVICE_ID w_USER_AGE w_USER_REGION wN wS zc h0 n0 _ T190.heap _
        rw [e190]
        exact ⟨rfl, N190⟩
    · obtain ⟨T191, X191, e191, st191⟩ := getS2 X173 hx hZ hown (host := "") (Or.inl (hw _ (List.mem_of_getElem? (i := 8) rfl))) Via.refl e173 S_NUMBER (g := (mkF m 34 #[.val (.int p1), .val (.int p2), .val (.int p3), .val (.int p4), .val (.int (5 : Int32)), .val (.ref w_USER_AGE), .val (.int (1 : Int32)), .unset, .unset, .unset, .unset, .unset] [])) rfl (hb hby at_34)
      obtain ⟨T192, h192, k192, X192, e192, E192, A192, st192⟩ := newP X191 hx hZ (hw _ (List.mem_of_getElem? (i := 11) rfl)) e191 (g := (mkF m 46 #[.val (.int p1), .val (.int p2), .val (.int p3), .val (.int p4), .val (.int (5 : Int32)), .val (.ref w_USER_AGE), .val (.int (1 : Int32)), .val (.ref wN), .unset, .unset, .unset, .unset] [(.int (1 : Int32))])) rfl (hb hby at_46) rfl (by decide) (cap := 1) (by decide) (by decide) (by decide) (by decide)
      obtain ⟨b192, g192⟩ : ∃ z, z = h0.size := ⟨_, rfl⟩
      rw [← g192] at A192 st192
      have V_b192 : Arv Z h192 b192 k192 .char (1 : Int32) [(.int (0 : Int32))] (.int (0 : Int32)) := (Arv.new A192 (by decide)).pad (pad_rep [] (.int (0 : Int32)) 1)
      have g_b192 : n0 ≤ b192 := Nat.le_trans Z0 (Nat.le_of_eq g192.symm)
      have sz_b192 : h0.size ≤ b192 := Nat.le_trans ((Keep.refl h0 [])).1 (Nat.le_of_eq g192.symm)
      have K192 : Keep h0 h192 [] := ((Keep.refl h0 [])).ext E192
      obtain ⟨cl193, Ar193, q193, S193, N193_, H193, G193⟩ := id V_b192
      obtain ⟨T193, h193, X193, e193, W193, st193⟩ := stC X192 hx hZ e192 Ar193 (j := (0 : Int32)) (inb_of S193 ⟨by decide, by decide⟩) (g := (mkF m 56 #[.val (.int p1), .val (.int p2), .val (.int p3), .val (.int p4), .val (.int (5 : Int32)), .val (.ref w_USER_AGE), .val (.int (1 : Int32)), .val (.ref wN), .unset, .unset, .unset, .unset] [(.int ((p3 &&& (255 : Int32)).toUInt32.toUInt16.toUInt32.toInt32)), (.int (0 : Int32)), (.ref b192), (.ref b192)])) rfl rfl (hb hby at_56)
      have V193 := Arv.set Ar193 q193 S193 N193_ H193 G193 (fits_nar_char _) W193 0 rfl (Nat.le_of_ble_eq_true rfl)
      have K193 : Keep h0 h193 [] := (K192).wr W193 (Or.inr sz_b192)
      have N193 := Fr.snoc X193 N173 g_b192
      obtain ⟨T194, h194, X194, e194, E194, A194, D194, -, st194⟩ := newO X193 hx hZ hown (hw _ (List.mem_of_getElem? (i := 12) rfl)) (hw _ (List.mem_of_getElem? (i := 13) rfl)) (hw _ (List.mem_of_getElem? (i := 14) rfl)) e193 (g := (mkF m 59 #[.val (.int p1), .val (.int p2), .val (.int p3), .val (.int p4), .val (.int (5 : Int32)), .val (.ref w_USER_AGE), .val (.int (1 : Int32)), .val (.ref wN), .val (.ref b192), .unset, .unset, .unset] [])) rfl (hb hby at_59) (by decide) (by decide)
      obtain ⟨b194, g194⟩ : ∃ z, z = h193.size := ⟨_, rfl⟩
      rw [← g194] at A194 D194 st194
      have ne_b192_b194 : b192 ≠ b194 := Nat.ne_of_lt (Nat.lt_of_lt_of_le V193.lt (Nat.le_of_eq g194.symm))
      have g_b194 : n0 ≤ b194 := Nat.le_trans (Nat.le_trans Z0 K193.1) (Nat.le_of_eq g194.symm)
      have sz_b194 : h0.size ≤ b194 := Nat.le_trans (K193).1 (Nat.le_of_eq g194.symm)
      have K194 : Keep h0 h194 [] := (K193).ext E194
      have F194_kind : Fld Z h194 b194 "com/example/riscontro/riscontro/rules/Token" "kind" "Lcom/example/riscontro/riscontro/rules/Token$Kind;" .null := D194 (Or.inr (hw _ (List.mem_of_getElem? (i := 62) rfl))) (ty := (.object "com/example/riscontro/riscontro/rules/Token$Kind")) (by decide)
      have F194_text : Fld Z h194 b194 "com/example/riscontro/riscontro/rules/Token" "text" "Ljava/lang/String;" .null := D194 (Or.inr (hw _ (List.mem_of_getElem? (i := 64) rfl))) (ty := (.object "java/lang/String")) (by decide)
      have F194_start : Fld Z h194 b194 "com/example/riscontro/riscontro/rules/Token" "start" "I" (.int (0 : Int32)) := D194 (Or.inr (hw _ (List.mem_of_getElem? (i := 66) rfl))) (ty := .int) (by decide)
      have f195 := (V193.ext E194)
      obtain ⟨T196, h196, X196, e196, E196, A196, D196, -, st196⟩ := newO X194 hx hZ hown (hw _ (List.mem_of_getElem? (i := 15) rfl)) (hw _ (List.mem_of_getElem? (i := 16) rfl)) (hw _ (List.mem_of_getElem? (i := 17) rfl)) e194 (g := (mkF m 65 #[.val (.int p1), .val (.int p2), .val (.int p3), .val (.int p4), .val (.int (5 : Int32)), .val (.ref w_USER_AGE), .val (.int (1 : Int32)), .val (.ref wN), .val (.ref b192), .unset, .unset, .unset] [(.ref wN), (.ref b194), (.ref b194)])) rfl (hb hby at_65) (by decide) (by decide)
      obtain ⟨b196, g196⟩ : ∃ z, z = h194.size := ⟨_, rfl⟩
      rw [← g196] at A196 D196 st196
      have ne_b192_b196 : b192 ≠ b196 := Nat.ne_of_lt (Nat.lt_of_lt_of_le f195.lt (Nat.le_of_eq g196.symm))
      have ne_b194_b196 : b194 ≠ b196 := Nat.ne_of_lt (Nat.lt_of_lt_of_le A194.lt (Nat.le_of_eq g196.symm))
      have g_b196 : n0 ≤ b196 := Nat.le_trans (Nat.le_trans Z0 K194.1) (Nat.le_of_eq g196.symm)
      have sz_b196 : h0.size ≤ b196 := Nat.le_trans (K194).1 (Nat.le_of_eq g196.symm)
      have K196 : Keep h0 h196 [] := (K194).ext E196
      have F196_coder : Fld Z h196 b196 "java/lang/String" "coder" "B" (.int (0 : Int32)) := D196 (Or.inr (hw _ (List.mem_of_getElem? (i := 41) rfl))) (ty := .byte) (by decide)
      have F196_value : Fld Z h196 b196 "java/lang/String" "value" "[B" .null := D196 (Or.inr (hw _ (List.mem_of_getElem? (i := 43) rfl))) (ty := (.array .byte)) (by decide)
      have f197 := (f195.ext E196)
      have V198 : Arv Z h196 b192 _ .char (1 : Int32) (([nar .char ((p3 &&& (255 : Int32)).toUInt32.toUInt16.toUInt32.toInt32)] : List Int32).map Value.int) (.int (0 : Int32)) := f197
      have hws : ∀ d ∈ StrChars.Road.words, d.before a0 Z = true := fun d hd => hw d ((by decide +kernel : ∀ d ∈ StrChars.Road.words, d ∈ tables_1) d hd)
      obtain ⟨_, _, ⟨T199, L199, k199, n199⟩, -, X199, ⟨Lc199, hQ199, l199, y199, z199⟩, st199⟩ := X196.specialBack hx (y := (⟨"java/lang/String", "<init>", "([C)V"⟩ : MethodName)) rfl hown (mvT hZ (hw _ (List.mem_of_getElem? (i := 18) rfl))) (mvT hZ (hw _ (List.mem_of_getElem? (i := 19) rfl))) (mvT hZ (hw _ (List.mem_of_getElem? (i := 20) rfl))) (by decide) (StrChars.Road.backV (W := 4) hZ hws (kI := 4) (hw _ (List.mem_of_getElem? (i := 16) rfl)) (cs := [nar .char ((p3 &&& (255 : Int32)).toUInt32.toUInt16.toUInt32.toInt32)]) (bs := ([nar .char ((p3 &&& (255 : Int32)).toUInt32.toUInt16.toUInt32.toInt32)] : List Int32).map (fun c => c.toInt8.toInt32)) (n := 1) g_b196 (Nat.le_trans Z0 K196.1) A196 F196_value F196_coder V198 (Sta.ext (own_keep_ext K196) S_C) hzc rfl rfl (by decide) (by decide) (own_chrb p3) rfl (by decide) (by decide)) (g := (mkF m 71 #[.val (.int p1), .val (.int p2), .val (.int p3), .val (.int p4), .val (.int (5 : Int32)), .val (.ref w_USER_AGE), .val (.int (1 : Int32)), .val (.ref wN), .val (.ref b192), .unset, .unset, .unset] [(.ref b192), (.ref b196), (.ref b196), (.ref wN), (.ref b194), (.ref b194)])) rfl (by rw [hml]; rfl) (Steps.refl _) (a := b196) (argsL := [(.ref b192)]) (rest := [(.ref b196), (.ref wN), (.ref b194), (.ref b194)]) (lenOf pd_rm0_1 rfl) rfl (by show 2 * 0 + _ ≤ _; exact Nat.le_of_eq rfl) (hb hby at_71) (fun _ _ => ⟨rfl, e196, (by decide : 3 + 1 ≤ _), (by decide : 8 + 1 ≤ _)⟩)
      dsimp only [Pt.U, Pt.locs, Pt.cells, Pt.slots] at X199 l199 y199 z199 st199 hQ199
      subst l199 y199 z199
      obtain ⟨rfl, N199q, K199q, A199q, C199q, t199, k199, g1991, g1992, g1993, F199q, B199q⟩ := hQ199
      have N199 := Fr.app N193 N199q
      have K199 : Keep h0 T199.heap [] := (K196).trans K199q (allS (Or.inr sz_b196) all0)
      have f200 := ((Exa.ext E196 A194).keep K199q)
      have f201 := ((Fld.ext E196 F194_kind).keep K199q (ninS ne_b194_b196 nin0))
      have f202 := ((Fld.ext E196 F194_text).keep K199q (ninS ne_b194_b196 nin0))
      have f203 := ((Fld.ext E196 F194_start).keep K199q (ninS ne_b194_b196 nin0))
      obtain ⟨_, _, ⟨T204, L204, k204, n204⟩, -, X204, hS2_204, hg_204, ⟨Lc204, hQ204, l204, y204, z204⟩, st204⟩ := X199.specialBackS hx (y := (⟨"com/example/riscontro/riscontro/rules/Token", "<init>", "(Lcom/example/riscontro/riscontro/rules/Token$Kind;Ljava/lang/String;I)V"⟩ : MethodName)) rfl hown (mvT hZ (hw _ (List.mem_of_getElem? (i := 44) rfl))) (mvT hZ (hw _ (List.mem_of_getElem? (i := 45) rfl))) (mvT hZ (hw _ (List.mem_of_getElem? (i := 46) rfl))) (by decide) (backOfS (W := 1) (rmT l Z a0 hw [] b194 wN b196 (p4 &&& (2147483647 : Int32)) T199.heap n0 (Nat.le_trans Z0 K199.1) f200 f201 f202 f203 g_b194 (own_start p4)) hZ (hw _ (List.mem_of_getElem? (i := 46) rfl)) (hw _ (List.mem_of_getElem? (i := 14) rfl)) (by decide) (by decide)) (g := (mkF m 78 #[.val (.int p1), .val (.int p2), .val (.int p3), .val (.int p4), .val (.int (5 : Int32)), .val (.ref w_USER_AGE), .val (.int (1 : Int32)), .val (.ref wN), .val (.ref b192), .unset, .unset, .unset] [(.int (p4 &&& (2147483647 : Int32))), (.ref b196), (.ref wN), (.ref b194), (.ref b194)])) rfl (by rw [hml]; rfl) (Steps.refl _) (a := b194) (argsL := [(.ref wN), (.ref b196), (.int (p4 &&& (2147483647 : Int32)))]) (rest := [(.ref b194)]) (lenOf pd_rm0_2 rfl) rfl (by show 2 * 0 + _ ≤ _; exact Nat.le_of_eq rfl) (hb hby at_78) (fun _ _ => ⟨rfl, rfl, (by decide : 4 + 4 ≤ _), (by decide : 9 + 40 ≤ _)⟩)
      dsimp only [Pt.U, Pt.locs, Pt.cells, Pt.slots] at X204 l204 y204 z204 st204 hQ204
      subst l204 y204 z204
      obtain ⟨X204', hS204', hZ204', hown204'⟩ := rebS (s := s) (vm0 := s.vm) hS0 (show _ ≤ T199.heap.size by exact (Nat.le_trans (Nat.le_trans (Nat.le_trans (Nat.le_trans (Nat.le_trans (Nat.zero_le _) (E192).1) (Keep.of_wr W193).1) (E194).1) (E196).1) (K199q).1)) X204 hS2_204 hg_204 hZ hown
      obtain ⟨rfl, N204q, K204q, A204q, G204q⟩ := hQ204
      have N204 := Fr.app N199 N204q
      have K204 : Keep h0 T204.heap [] := (K199).trans K204q (allS (Or.inr sz_b194) all0)
      obtain ⟨cq205, kq205, q205a, q205b, q205c⟩ := isOf hZ204' rfl (Exa.ext (own_keep_ext K204) E_USER_AGE)
      obtain ⟨_, _, ⟨T205, L205, k205, n205⟩, -, X205, ⟨Lc205, hQ205, l205, y205, z205⟩, st205⟩ := X204'.virtualBack hx (y := (⟨"com/example/riscontro/riscontro/rules/Field", "takes", "(Lcom/example/riscontro/riscontro/rules/Token;)Z"⟩ : MethodName)) (z := (⟨"com/example/riscontro/riscontro/rules/Field", "takes", "(Lcom/example/riscontro/riscontro/rules/Token;)Z"⟩ : MethodName)) hown204' (mvT hZ204' (hw _ (List.mem_of_getElem? (i := 67) rfl))) (mvT hZ204' (hw _ (List.mem_of_getElem? (i := 68) rfl))) (notFace_of_selects (args := #[]) (mvT hZ204' (hw _ (List.mem_of_getElem? (i := 70) rfl)))) (mvT hZ204' (hw _ (List.mem_of_getElem? (i := 70) rfl))) (mvT hZ204' (hw _ (List.mem_of_getElem? (i := 69) rfl))) (by decide) (backOf (W := 0) (rmX l Z a0 hw [] w_USER_AGE b194 wN wN (1 : Int32) T204.heap n0 (Nat.le_trans Z0 K204.1) (Fld.ext (own_keep_ext K204) V_USER_AGE) G204q A204q (if_pos rfl)) hZ204' (hw _ (List.mem_of_getElem? (i := 71) rfl)) (hw _ (List.mem_of_getElem? (i := 6) rfl)) (by decide) (by decide)) q205a q205c (g := (mkF m 119 #[.val (.int p1), .val (.int p2), .val (.int p3), .val (.int p4), .val (.int (5 : Int32)), .val (.ref w_USER_AGE), .val (.int (1 : Int32)), .val (.ref wN), .val (.ref b192), .val (.ref b194), .val (.int (1 : Int32)), .val (.int (1 : Int32))] [(.ref b194), (.ref w_USER_AGE)])) rfl (by rw [hml]; rfl) (Steps.refl _) (argsL := [(.ref b194)]) (rest := []) (lenOf pd_rm0_3 rfl) rfl (by show 2 * 0 + _ ≤ _; exact Nat.le_of_eq rfl) (hb hby at_119) (fun _ _ => ⟨rfl, rfl, (by decide : 8 + 0 ≤ _), (by decide : 49 + 0 ≤ _)⟩)
      dsimp only [Pt.U, Pt.locs, Pt.cells, Pt.slots] at X205 l205 y205 z205 st205 hQ205
      subst l205 y205 z205
      obtain ⟨rfl, N205q, e205⟩ := hQ205
      have N205 := Fr.app N204 N205q
      obtain ⟨fs, hr, hrun, hended, hRW⟩ := Jvm.Stand.leaveW (s := s) (vm₁ := T204.vm) X205 hS204' (show _ ≤ T205.heap.size by rw [e205]; exact (Nat.le_refl T204.heap.size)) (v := some (.int (1 : Int32))) (fun h => by rw [Bd.returns] at h; cases h)
      refine ⟨_, _, pre174 _ ?_, hrun, hended, _, _, rfl, ?_, hRW.1, hRW.2.1, hRW.2.2.1, hRW.2.2.2.mono (by decide) (by decide)⟩
      · show Steps p.tables e below (T173.setTop (mkF m 19 #[.val (.int p1), .val (.int p2), .val (.int p3), .val (.int p4), .val (.int (5 : Int32)), .val (.ref w_USER_AGE), .unset, .unset, .unset, .unset, .unset, .unset] [(.int (p2 &&& (1 : Int32)))])) _
        refine XS.ifNo X173.here hx rfl (hb hby at_19) rfl ((if0 _ _).trans (feq hc175).1) ?_
        show Steps p.tables e below (T173.setTop (mkF m 22 #[.val (.int p1), .val (.int p2), .val (.int p3), .val (.int p4), .val (.int (5 : Int32)), .val (.ref w_USER_AGE), .unset, .unset, .unset, .unset, .unset, .unset] [])) _
        refine XS.iconst X173.here hx rfl (hb hby at_22) ?_
        show Steps p.tables e below (T173.setTop (mkF m 23 #[.val (.int p1), .val (.int p2), .val (.int p3), .val (.int p4), .val (.int (5 : Int32)), .val (.ref w_USER_AGE), .unset, .unset, .unset, .unset, .unset, .unset] [(.int (1 : Int32))])) _
        refine XS.goto X173.here hx rfl (pc0 := 23) (pc' := 27) rfl (hb hby at_23) (by decide) (by decide) ?_
        show Steps p.tables e below (T173.setTop (mkF m 27 #[.val (.int p1), .val (.int p2), .val (.int p3), .val (.int p4), .val (.int (5 : Int32)), .val (.ref w_USER_AGE), .unset, .unset, .unset, .unset, .unset, .unset] [(.int (1 : Int32))])) _
        refine XS.istore X173.here hx rfl (hb hby at_27) rfl (l' := #[.val (.int p1), .val (.int p2), .val (.int p3), .val (.int p4), .val (.int (5 : Int32)), .val (.ref w_USER_AGE), .val (.int (1 : Int32)), .unset, .unset, .unset, .unset, .unset]) rfl ?_
        show Steps p.tables e below (T173.setTop (mkF m 29 #[.val (.int p1), .val (.int p2), .val (.int p3), .val (.int p4), .val (.int (5 : Int32)), .val (.ref w_USER_AGE), .val (.int (1 : Int32)), .unset, .unset, .unset, .unset, .unset] [])) _
        refine XS.iload X173.here hx rfl (hb hby at_29) rfl ?_
        show Steps p.tables e below (T173.setTop (mkF m 31 #[.val (.int p1), .val (.int p2), .val (.int p3), .val (.int p4), .val (.int (5 : Int32)), .val (.ref w_USER_AGE), .val (.int (1 : Int32)), .unset, .unset, .unset, .unset, .unset] [(.int (1 : Int32))])) _
        refine XS.ifNo X173.here hx rfl (hb hby at_31) rfl ((if0 _ _).trans (feq (by decide : ¬ ((1 : Int32) = (0 : Int32)))).1) ?_
        show Steps p.tables e below (T173.setTop (mkF m 34 #[.val (.int p1), .val (.int p2), .val (.int p3), .val (.int p4), .val (.int (5 : Int32)), .val (.ref w_USER_AGE), .val (.int (1 : Int32)), .unset, .unset, .unset, .unset, .unset] [])) _
        refine st191 _ ?_
        show Steps p.tables e below (T191.setTop (mkF m 37 #[.val (.int p1), .val (.int p2), .val (.int p3), .val (.int p4), .val (.int (5 : Int32)), .val (.ref w_USER_AGE), .val (.int (1 : Int32)), .unset, .unset, .unset, .unset, .unset] [(.ref wN)])) _
        refine XS.goto X191.here hx rfl (pc0 := 37) (pc' := 43) rfl (hb hby at_37) (by decide) (by decide) ?_
        show Steps p.tables e below (T191.setTop (mkF m 43 #[.val (.int p1), .val (.int p2), .val (.int p3), .val (.int p4), .val (.int (5 : Int32)), .val (.ref w_USER_AGE), .val (.int (1 : Int32)), .unset, .unset, .unset, .unset, .unset] [(.ref wN)])) _
        refine XS.astore X191.here hx rfl (hb hby at_43) rfl rfl (l' := #[.val (.int p1), .val (.int p2), .val (.int p3), .val (.int p4), .val (.int (5 : Int32)), .val (.ref w_USER_AGE), .val (.int (1 : Int32)), .val (.ref wN), .unset, .unset, .unset, .unset]) rfl ?_
        show Steps p.tables e below (T191.setTop (mkF m 45 #[.val (.int p1), .val (.int p2), .val (.int p3), .val (.int p4), .val (.int (5 : Int32)), .val (.ref w_USER_AGE), .val (.int (1 : Int32)), .val (.ref wN), .unset, .unset, .unset, .unset] [])) _
        refine XS.iconst X191.here hx rfl (hb hby at_45) ?_
        show Steps p.tables e below (T191.setTop (mkF m 46 #[.val (.int p1), .val (.int p2), .val (.int p3), .val (.int p4), .val (.int (5 : Int32)), .val (.ref w_USER_AGE), .val (.int (1 : Int32)), .val (.ref wN), .unset, .unset, .unset, .unset] [(.int (1 : Int32))])) _
        refine st192 _ ?_
        show Steps p.tables e below (T192.setTop (mkF m 48 #[.val (.int p1), .val (.int p2), .val (.int p3), .val (.int p4), .val (.int (5 : Int32)), .val (.ref w_USER_AGE), .val (.int (1 : Int32)), .val (.ref wN), .unset, .unset, .unset, .unset] [(.ref b192)])) _
        refine XS.dup X192.here hx rfl (hb hby at_48) rfl rfl ?_
        show Steps p.tables e below (T192.setTop (mkF m 49 #[.val (.int p1), .val (.int p2), .val (.int p3), .val (.int p4), .val (.int (5 : Int32)), .val (.ref w_USER_AGE), .val (.int (1 : Int32)), .val (.ref wN), .unset, .unset, .unset, .unset] [(.ref b192), (.ref b192)])) _
        refine XS.iconst X192.here hx rfl (hb hby at_49) ?_
        show Steps p.tables e below (T192.setTop (mkF m 50 #[.val (.int p1), .val (.int p2), .val (.int p3), .val (.int p4), .val (.int (5 : Int32)), .val (.ref w_USER_AGE), .val (.int (1 : Int32)), .val (.ref wN), .unset, .unset, .unset, .unset] [(.int (0 : Int32)), (.ref b192), (.ref b192)])) _
        refine XS.iloadN X192.here hx rfl (hb hby at_50) rfl ?_
        show Steps p.tables e below (T192.setTop (mkF m 51 #[.val (.int p1), .val (.int p2), .val (.int p3), .val (.int p4), .val (.int (5 : Int32)), .val (.ref w_USER_AGE), .val (.int (1 : Int32)), .val (.ref wN), .unset, .unset, .unset, .unset] [(.int p3), (.int (0 : Int32)), (.ref b192), (.ref b192)])) _
        refine XS.sipush X192.here hx rfl (hb hby at_51) ?_
        show Steps p.tables e below (T192.setTop (mkF m 54 #[.val (.int p1), .val (.int p2), .val (.int p3), .val (.int p4), .val (.int (5 : Int32)), .val (.ref w_USER_AGE), .val (.int (1 : Int32)), .val (.ref wN), .unset, .unset, .unset, .unset] [(.int (255 : Int32)), (.int p3), (.int (0 : Int32)), (.ref b192), (.ref b192)])) _
        refine XS.iand X192.here hx rfl (hb hby at_54) rfl ?_
        show Steps p.tables e below (T192.setTop (mkF m 55 #[.val (.int p1), .val (.int p2), .val (.int p3), .val (.int p4), .val (.int (5 : Int32)), .val (.ref w_USER_AGE), .val (.int (1 : Int32)), .val (.ref wN), .unset, .unset, .unset, .unset] [(.int (p3 &&& (255 : Int32))), (.int (0 : Int32)), (.ref b192), (.ref b192)])) _
        refine XS.i2c X192.here hx rfl (hb hby at_55) rfl ?_
        show Steps p.tables e below (T192.setTop (mkF m 56 #[.val (.int p1), .val (.int p2), .val (.int p3), .val (.int p4), .val (.int (5 : Int32)), .val (.ref w_USER_AGE), .val (.int (1 : Int32)), .val (.ref wN), .unset, .unset, .unset, .unset] [(.int ((p3 &&& (255 : Int32)).toUInt32.toUInt16.toUInt32.toInt32)), (.int (0 : Int32)), (.ref b192), (.ref b192)])) _
        refine st193 _ ?_
        show Steps p.tables e below (T193.setTop (mkF m 57 #[.val (.int p1), .val (.int p2), .val (.int p3), .val (.int p4), .val (.int (5 : Int32)), .val (.ref w_USER_AGE), .val (.int (1 : Int32)), .val (.ref wN), .unset, .unset, .unset, .unset] [(.ref b192)])) _
        refine XS.astore X193.here hx rfl (hb hby at_57) rfl rfl (l' := #[.val (.int p1), .val (.int p2), .val (.int p3), .val (.int p4), .val (.int (5 : Int32)), .val (.ref w_USER_AGE), .val (.int (1 : Int32)), .val (.ref wN), .val (.ref b192), .unset, .unset, .unset]) rfl ?_
        show Steps p.tables e below (T193.setTop (mkF m 59 #[.val (.int p1), .val (.int p2), .val (.int p3), .val (.int p4), .val (.int (5 : Int32)), .val (.ref w_USER_AGE), .val (.int (1 : Int32)), .val (.ref wN), .val (.ref b192), .unset, .unset, .unset] [])) _
        refine st194 _ ?_
        show Steps p.tables e below (T194.setTop (mkF m 62 #[.val (.int p1), .val (.int p2), .val (.int p3), .val (.int p4), .val (.int (5 : Int32)), .val (.ref w_USER_AGE), .val (.int (1 : Int32)), .val (.ref wN), .val (.ref b192), .unset, .unset, .unset] [(.ref b194)])) _
        refine XS.dup X194.here hx rfl (hb hby at_62) rfl rfl ?_
        show Steps p.tables e below (T194.setTop (mkF m 63 #[.val (.int p1), .val (.int p2), .val (.int p3), .val (.int p4), .val (.int (5 : Int32)), .val (.ref w_USER_AGE), .val (.int (1 : Int32)), .val (.ref wN), .val (.ref b192), .unset, .unset, .unset] [(.ref b194), (.ref b194)])) _
        refine XS.aload X194.here hx rfl (hb hby at_63) rfl rfl ?_
        show Steps p.tables e below (T194.setTop (mkF m 65 #[.val (.int p1), .val (.int p2), .val (.int p3), .val (.int p4), .val (.int (5 : Int32)), .val (.ref w_USER_AGE), .val (.int (1 : Int32)), .val (.ref wN), .val (.ref b192), .unset, .unset, .unset] [(.ref wN), (.ref b194), (.ref b194)])) _
        refine st196 _ ?_
        show Steps p.tables e below (T196.setTop (mkF m 68 #[.val (.int p1), .val (.int p2), .val (.int p3), .val (.int p4), .val (.int (5 : Int32)), .val (.ref w_USER_AGE), .val (.int (1 : Int32)), .val (.ref wN), .val (.ref b192), .unset, .unset, .unset] [(.ref b196), (.ref wN), (.ref b194), (.ref b194)])) _
        refine XS.dup X196.here hx rfl (hb hby at_68) rfl rfl ?_
        show Steps p.tables e below (T196.setTop (mkF m 69 #[.val (.int p1), .val (.int p2), .val (.int p3), .val (.int p4), .val (.int (5 : Int32)), .val (.ref w_USER_AGE), .val (.int (1 : Int32)), .val (.ref wN), .val (.ref b192), .unset, .unset, .unset] [(.ref b196), (.ref b196), (.ref wN), (.ref b194), (.ref b194)])) _
        refine XS.aload X196.here hx rfl (hb hby at_69) rfl rfl ?_
        show Steps p.tables e below (T196.setTop (mkF m 71 #[.val (.int p1), .val (.int p2), .val (.int p3), .val (.int p4), .val (.int (5 : Int32)), .val (.ref w_USER_AGE), .val (.int (1 : Int32)), .val (.ref wN), .val (.ref b192), .unset, .unset, .unset] [(.ref b192), (.ref b196), (.ref b196), (.ref wN), (.ref b194), (.ref b194)])) _
        refine st199.trans ?_
        show Steps p.tables e below (T199.setTop (mkF m 74 #[.val (.int p1), .val (.int p2), .val (.int p3), .val (.int p4), .val (.int (5 : Int32)), .val (.ref w_USER_AGE), .val (.int (1 : Int32)), .val (.ref wN), .val (.ref b192), .unset, .unset, .unset] [(.ref b196), (.ref wN), (.ref b194), (.ref b194)])) _
        refine XS.iloadN X199.here hx rfl (hb hby at_74) rfl ?_
        show Steps p.tables e below (T199.setTop (mkF m 75 #[.val (.int p1), .val (.int p2), .val (.int p3), .val (.int p4), .val (.int (5 : Int32)), .val (.ref w_USER_AGE), .val (.int (1 : Int32)), .val (.ref wN), .val (.ref b192), .unset, .unset, .unset] [(.int p4), (.ref b196), (.ref wN), (.ref b194), (.ref b194)])) _
        refine X199.ldcInt hx hown (mvT hZ (hw _ (List.mem_of_getElem? (i := 0) rfl))) (g := (mkF m 75 #[.val (.int p1), .val (.int p2), .val (.int p3), .val (.int p4), .val (.int (5 : Int32)), .val (.ref w_USER_AGE), .val (.int (1 : Int32)), .val (.ref wN), .val (.ref b192), .unset, .unset, .unset] [(.int p4), (.ref b196), (.ref wN), (.ref b194), (.ref b194)])) rfl (hb hby at_75) _ ?_
        show Steps p.tables e below (T199.setTop (mkF m 77 #[.val (.int p1), .val (.int p2), .val (.int p3), .val (.int p4), .val (.int (5 : Int32)), .val (.ref w_USER_AGE), .val (.int (1 : Int32)), .val (.ref wN), .val (.ref b192), .unset, .unset, .unset] [(.int (2147483647 : Int32)), (.int p4), (.ref b196), (.ref wN), (.ref b194), (.ref b194)])) _
        refine XS.iand X199.here hx rfl (hb hby at_77) rfl ?_
        show Steps p.tables e below (T199.setTop (mkF m 78 #[.val (.int p1), .val (.int p2), .val (.int p3), .val (.int p4), .val (.int (5 : Int32)), .val (.ref w_USER_AGE), .val (.int (1 : Int32)), .val (.ref wN), .val (.ref b192), .unset, .unset, .unset] [(.int (p4 &&& (2147483647 : Int32))), (.ref b196), (.ref wN), (.ref b194), (.ref b194)])) _
        refine st204.trans ?_
        show Steps p.tables e below (T204.setTop (mkF m 81 #[.val (.int p1), .val (.int p2), .val (.int p3), .val (.int p4), .val (.int (5 : Int32)), .val (.ref w_USER_AGE), .val (.int (1 : Int32)), .val (.ref wN), .val (.ref b192), .unset, .unset, .unset] [(.ref b194)])) _
        refine XS.astore X204'.here hx rfl (hb hby at_81) rfl rfl (l' := #[.val (.int p1), .val (.int p2), .val (.int p3), .val (.int p4), .val (.int (5 : Int32)), .val (.ref w_USER_AGE), .val (.int (1 : Int32)), .val (.ref wN), .val (.ref b192), .val (.ref b194), .unset, .unset]) rfl ?_
        show Steps p.tables e below (T204.setTop (mkF m 83 #[.val (.int p1), .val (.int p2), .val (.int p3), .val (.int p4), .val (.int (5 : Int32)), .val (.ref w_USER_AGE), .val (.int (1 : Int32)), .val (.ref wN), .val (.ref b192), .val (.ref b194), .unset, .unset] [])) _
        refine XS.iload X204'.here hx rfl (hb hby at_83) rfl ?_
        show Steps p.tables e below (T204.setTop (mkF m 85 #[.val (.int p1), .val (.int p2), .val (.int p3), .val (.int p4), .val (.int (5 : Int32)), .val (.ref w_USER_AGE), .val (.int (1 : Int32)), .val (.ref wN), .val (.ref b192), .val (.ref b194), .unset, .unset] [(.int (5 : Int32))])) _
        refine XS.ifNo X204'.here hx rfl (hb hby at_85) rfl ((if0 _ _).trans (feq (by decide : ¬ ((5 : Int32) = (0 : Int32)))).1) ?_
        show Steps p.tables e below (T204.setTop (mkF m 88 #[.val (.int p1), .val (.int p2), .val (.int p3), .val (.int p4), .val (.int (5 : Int32)), .val (.ref w_USER_AGE), .val (.int (1 : Int32)), .val (.ref wN), .val (.ref b192), .val (.ref b194), .unset, .unset] [])) _
        refine XS.iload X204'.here hx rfl (hb hby at_88) rfl ?_
        show Steps p.tables e below (T204.setTop (mkF m 90 #[.val (.int p1), .val (.int p2), .val (.int p3), .val (.int p4), .val (.int (5 : Int32)), .val (.ref w_USER_AGE), .val (.int (1 : Int32)), .val (.ref wN), .val (.ref b192), .val (.ref b194), .unset, .unset] [(.int (5 : Int32))])) _
        refine XS.iconst X204'.here hx rfl (hb hby at_90) ?_
        show Steps p.tables e below (T204.setTop (mkF m 91 #[.val (.int p1), .val (.int p2), .val (.int p3), .val (.int p4), .val (.int (5 : Int32)), .val (.ref w_USER_AGE), .val (.int (1 : Int32)), .val (.ref wN), .val (.ref b192), .val (.ref b194), .unset, .unset] [(.int (5 : Int32)), (.int (5 : Int32))])) _
        refine XS.icmpNo X204'.here hx rfl (hb hby at_91) rfl (teq (rfl : (5 : Int32) = (5 : Int32))).2 ?_
        show Steps p.tables e below (T204.setTop (mkF m 94 #[.val (.int p1), .val (.int p2), .val (.int p3), .val (.int p4), .val (.int (5 : Int32)), .val (.ref w_USER_AGE), .val (.int (1 : Int32)), .val (.ref wN), .val (.ref b192), .val (.ref b194), .unset, .unset] [])) _
        refine XS.iconst X204'.here hx rfl (hb hby at_94) ?_
        show Steps p.tables e below (T204.setTop (mkF m 95 #[.val (.int p1), .val (.int p2), .val (.int p3), .val (.int p4), .val (.int (5 : Int32)), .val (.ref w_USER_AGE), .val (.int (1 : Int32)), .val (.ref wN), .val (.ref b192), .val (.ref b194), .unset, .unset] [(.int (1 : Int32))])) _
        refine XS.goto X204'.here hx rfl (pc0 := 95) (pc' := 99) rfl (hb hby at_95) (by decide) (by decide) ?_
        show Steps p.tables e below (T204.setTop (mkF m 99 #[.val (.int p1), .val (.int p2), .val (.int p3), .val (.int p4), .val (.int (5 : Int32)), .val (.ref w_USER_AGE), .val (.int (1 : Int32)), .val (.ref wN), .val (.ref b192), .val (.ref b194), .unset, .unset] [(.int (1 : Int32))])) _
        refine XS.istore X204'.here hx rfl (hb hby at_99) rfl (l' := #[.val (.int p1), .val (.int p2), .val (.int p3), .val (.int p4), .val (.int (5 : Int32)), .val (.ref w_USER_AGE), .val (.int (1 : Int32)), .val (.ref wN), .val (.ref b192), .val (.ref b194), .val (.int (1 : Int32)), .unset]) rfl ?_
        show Steps p.tables e below (T204.setTop (mkF m 101 #[.val (.int p1), .val (.int p2), .val (.int p3), .val (.int p4), .val (.int (5 : Int32)), .val (.ref w_USER_AGE), .val (.int (1 : Int32)), .val (.ref wN), .val (.ref b192), .val (.ref b194), .val (.int (1 : Int32)), .unset] [])) _
        refine XS.iload X204'.here hx rfl (hb hby at_101) rfl ?_
        show Steps p.tables e below (T204.setTop (mkF m 103 #[.val (.int p1), .val (.int p2), .val (.int p3), .val (.int p4), .val (.int (5 : Int32)), .val (.ref w_USER_AGE), .val (.int (1 : Int32)), .val (.ref wN), .val (.ref b192), .val (.ref b194), .val (.int (1 : Int32)), .unset] [(.int (1 : Int32))])) _
        refine XS.iload X204'.here hx rfl (hb hby at_103) rfl ?_
        show Steps p.tables e below (T204.setTop (mkF m 105 #[.val (.int p1), .val (.int p2), .val (.int p3), .val (.int p4), .val (.int (5 : Int32)), .val (.ref w_USER_AGE), .val (.int (1 : Int32)), .val (.ref wN), .val (.ref b192), .val (.ref b194), .val (.int (1 : Int32)), .unset] [(.int (1 : Int32)), (.int (1 : Int32))])) _
        refine XS.icmpNo X204'.here hx rfl (hb hby at_105) rfl (teq (rfl : (1 : Int32) = (1 : Int32))).2 ?_
        show Steps p.tables e below (T204.setTop (mkF m 108 #[.val (.int p1), .val (.int p2), .val (.int p3), .val (.int p4), .val (.int (5 : Int32)), .val (.ref w_USER_AGE), .val (.int (1 : Int32)), .val (.ref wN), .val (.ref b192), .val (.ref b194), .val (.int (1 : Int32)), .unset] [])) _
        refine XS.iconst X204'.here hx rfl (hb hby at_108) ?_
        show Steps p.tables e below (T204.setTop (mkF m 109 #[.val (.int p1), .val (.int p2), .val (.int p3), .val (.int p4), .val (.int (5 : Int32)), .val (.ref w_USER_AGE), .val (.int (1 : Int32)), .val (.ref wN), .val (.ref b192), .val (.ref b194), .val (.int (1 : Int32)), .unset] [(.int (1 : Int32))])) _
        refine XS.goto X204'.here hx rfl (pc0 := 109) (pc' := 113) rfl (hb hby at_109) (by decide) (by decide) ?_
        show Steps p.tables e below (T204.setTop (mkF m 113 #[.val (.int p1), .val (.int p2), .val (.int p3), .val (.int p4), .val (.int (5 : Int32)), .val (.ref w_USER_AGE), .val (.int (1 : Int32)), .val (.ref wN), .val (.ref b192), .val (.ref b194), .val (.int (1 : Int32)), .unset] [(.int (1 : Int32))])) _
        refine XS.istore X204'.here hx rfl (hb hby at_113) rfl (l' := #[.val (.int p1), .val (.int p2), .val (.int p3), .val (.int p4), .val (.int (5 : Int32)), .val (.ref w_USER_AGE), .val (.int (1 : Int32)), .val (.ref wN), .val (.ref b192), .val (.ref b194), .val (.int (1 : Int32)), .val (.int (1 : Int32))]) rfl ?_
        show Steps p.tables e below (T204.setTop (mkF m 115 #[.val (.int p1), .val (.int p2), .val (.int p3), .val (.int p4), .val (.int (5 : Int32)), .val (.ref w_USER_AGE), .val (.int (1 : Int32)), .val (.ref wN), .val (.ref b192), .val (.ref b194), .val (.int (1 : Int32)), .val (.int (1 : Int32))] [])) _
        refine XS.aload X204'.here hx rfl (hb hby at_115) rfl rfl ?_
        show Steps p.tables e below (T204.setTop (mkF m 117 #[.val (.int p1), .val (.int p2), .val (.int p3), .val (.int p4), .val (.int (5 : Int32)), .val (.ref w_USER_AGE), .val (.int (1 : Int32)), .val (.ref wN), .val (.ref b192), .val (.ref b194), .val (.int (1 : Int32)), .val (.int (1 : Int32))] [(.ref w_USER_AGE)])) _
        refine XS.aload X204'.here hx rfl (hb hby at_117) rfl rfl ?_
        show Steps p.tables e below (T204.setTop (mkF m 119 #[.val (.int p1), .val (.int p2), .val (.int p3), .val (.int p4), .val (.int (5 : Int32)), .val (.ref w_USER_AGE), .val (.int (1 : Int32)), .val (.ref wN), .val (.ref b192), .val (.ref b194), .val (.int (1 : Int32)), .val (.int (1 : Int32))] [(.ref b194), (.ref w_USER_AGE)])) _
        refine st205.trans ?_
        show Steps p.tables e below (T205.setTop (mkF m 122 #[.val (.int p1), .val (.int p2), .val (.int p3), .val (.int p4), .val (.int (5 : Int32)), .val (.ref w_USER_AGE), .val (.int (1 : Int32)), .val (.ref wN), .val (.ref b192), .val (.ref b194), .val (.int (1 : Int32)), .val (.int (1 : Int32))] [(.int (1 : Int32))])) _
        refine XS.iload X205.here hx rfl (hb hby at_122) rfl ?_
        show Steps p.tables e below (T205.setTop (mkF m 124 #[.val (.int p1), .val (.int p2), .val (.int p3), .val (.int p4), .val (.int (5 : Int32)), .val (.ref w_USER_AGE), .val (.int (1 : Int32)), .val (.ref wN), .val (.ref b192), .val (.ref b194), .val (.int (1 : Int32)), .val (.int (1 : Int32))] [(.int (1 : Int32)), (.int (1 : Int32))])) _
        refine XS.icmpNo X205.here hx rfl (hb hby at_124) rfl (teq (rfl : (1 : Int32) = (1 : Int32))).2 ?_
        show Steps p.tables e below (T205.setTop (mkF m 127 #[.val (.int p1), .val (.int p2), .val (.int p3), .val (.int p4), .val (.int (5 : Int32)), .val (.ref w_USER_AGE), .val (.int (1 : Int32)), .val (.ref wN), .val (.ref b192), .val (.ref b194), .val (.int (1 : Int32)), .val (.int (1 : Int32))] [])) _
        refine XS.iconst X205.here hx rfl (hb hby at_127) ?_
        show Steps p.tables e below (T205.setTop (mkF m 128 #[.val (.int p1), .val (.int p2), .val (.int p3), .val (.int p4), .val (.int (5 : Int32)), .val (.ref w_USER_AGE), .val (.int (1 : Int32)), .val (.ref wN), .val (.ref b192), .val (.ref b194), .val (.int (1 : Int32)), .val (.int (1 : Int32))] [(.int (1 : Int32))])) _
        refine XS.goto X205.here hx rfl (pc0 := 128) (pc' := 132) rfl (hb hby at_128) (by decide) (by decide) ?_
        show Steps p.tables e below (T205.setTop (mkF m 132 #[.val (.int p1), .val (.int p2), .val (.int p3), .val (.int p4), .val (.int (5 : Int32)), .val (.ref w_USER_AGE), .val (.int (1 : Int32)), .val (.ref wN), .val (.ref b192), .val (.ref b194), .val (.int (1 : Int32)), .val (.int (1 : Int32))] [(.int (1 : Int32))])) _
        exact retN X205 hx (t := .boolean) Bd.returns (by simp) (hb hby at_132) hr
      · show Q_rm0 Z p1 p2 p3 p4 w_AMOUNT w_CURRENCY w_MERCHANT_ID w_IP_ADDRESS w_DEVICE_ID w_USER_AGE w_USER_REGION wN wS zc h0 n0 _ T205.heap _
        rw [e205]
        exact ⟨rfl, N205⟩
  · have pre206 : ∀ t, Steps p.tables e below (s₁.setTop (mkF m 7 #[.val (.int p1), .val (.int p2), .val (.int p3), .val (.int p4), .unset, .unset, .unset, .unset, .unset, .unset, .unset, .unset] [(.int (6 : Int32))])) t → Steps p.tables e below (s₁.setTop (entryFrame m #[(.int p1), (.int p2), (.int p3), (.int p4)] maxLocals)) t := fun t k => pre1 t (by rw [hk]; exact k)
    obtain ⟨_, _, ⟨T207, L207, k207, n207⟩, -, X207, ⟨Lc207, hQ207, l207, y207, z207⟩, st207⟩ := Jvm.LawKit.callS X0 hx (y := (⟨"com/example/riscontro/riscontro/rules/FieldTakesPinLaw", "pick", "(I)Lcom/example/riscontro/riscontro/rules/Field;"⟩ : MethodName)) hown (mvT hZ (hw _ (List.mem_of_getElem? (i := 1) rfl))) (mvT hZ (hw _ (List.mem_of_getElem? (i := 2) rfl))) (mvT hZ (hw _ (List.mem_of_getElem? (i := 3) rfl))) (mvT hZ (hw _ (List.mem_of_getElem? (i := 4) rfl))) (by decide) (backOf (W := 0) (rm1 l Z a0 hw [] (6 : Int32) w_AMOUNT w_CURRENCY w_MERCHANT_ID w_IP_ADDRESS w_DEVICE_ID w_USER_AGE w_USER_REGION w_USER_REGION h0 n0 Z0 S_AMOUNT S_CURRENCY S_MERCHANT_ID S_IP_ADDRESS S_DEVICE_ID S_USER_AGE S_USER_REGION rfl) hZ (hw _ (List.mem_of_getElem? (i := 4) rfl)) (hw _ (List.mem_of_getElem? (i := 3) rfl)) (by decide) (by decide)) (g := (mkF m 11 #[.val (.int p1), .val (.int p2), .val (.int p3), .val (.int p4), .val (.int (6 : Int32)), .unset, .unset, .unset, .unset, .unset, .unset, .unset] [(.int (6 : Int32))])) rfl (by rw [hml]; rfl) (argsL := [(.int (6 : Int32))]) (rest := []) (lenOf pd_rm0_0 rfl) rfl (by show 2 * 0 + _ ≤ _; exact Nat.le_of_eq rfl) (hb hby at_11) (fun _ _ => ⟨rfl, e0, (by decide : 0 + 0 ≤ _), (by decide : 0 + 0 ≤ _)⟩)
    dsimp only [Pt.U, Pt.locs, Pt.cells, Pt.slots] at X207 l207 y207 z207 st207 hQ207
    subst l207 y207 z207
    obtain ⟨rfl, N207q, e207⟩ := hQ207
    have N207 := Fr.app N0 N207q
    have pre208 : ∀ t, Steps p.tables e below (T207.setTop (mkF m 19 #[.val (.int p1), .val (.int p2), .val (.int p3), .val (.int p4), .val (.int (6 : Int32)), .val (.ref w_USER_REGION), .unset, .unset, .unset, .unset, .unset, .unset] [(.int (p2 &&& (1 : Int32)))])) t → Steps p.tables e below (s₁.setTop (entryFrame m #[(.int p1), (.int p2), (.int p3), (.int p4)] maxLocals)) t := fun t k => pre206 t (by
        show Steps p.tables e below (s₁.setTop (mkF m 7 #[.val (.int p1), .val (.int p2), .val (.int p3), .val (.int p4), .unset, .unset, .unset, .unset, .unset, .unset, .unset, .unset] [(.int (6 : Int32))])) _
        refine XS.istore X0.here hx rfl (hb hby at_7) rfl (l' := #[.val (.int p1), .val (.int p2), .val (.int p3), .val (.int p4), .val (.int (6 : Int32)), .unset, .unset, .unset, .unset, .unset, .unset, .unset]) rfl ?_
        show Steps p.tables e below (s₁.setTop (mkF m 9 #[.val (.int p1), .val (.int p2), .val (.int p3), .val (.int p4), .val (.int (6 : Int32)), .unset, .unset, .unset, .unset, .unset, .unset, .unset] [])) _
        refine XS.iload X0.here hx rfl (hb hby at_9) rfl ?_
        show Steps p.tables e below (s₁.setTop (mkF m 11 #[.val (.int p1), .val (.int p2), .val (.int p3), .val (.int p4), .val (.int (6 : Int32)), .unset, .unset, .unset, .unset, .unset, .unset, .unset] [(.int (6 : Int32))])) _
        refine st207 _ ?_
        show Steps p.tables e below (T207.setTop (mkF m 14 #[.val (.int p1), .val (.int p2), .val (.int p3), .val (.int p4), .val (.int (6 : Int32)), .unset, .unset, .unset, .unset, .unset, .unset, .unset] [(.ref w_USER_REGION)])) _
        refine XS.astore X207.here hx rfl (hb hby at_14) rfl rfl (l' := #[.val (.int p1), .val (.int p2), .val (.int p3), .val (.int p4), .val (.int (6 : Int32)), .val (.ref w_USER_REGION), .unset, .unset, .unset, .unset, .unset, .unset]) rfl ?_
        show Steps p.tables e below (T207.setTop (mkF m 16 #[.val (.int p1), .val (.int p2), .val (.int p3), .val (.int p4), .val (.int (6 : Int32)), .val (.ref w_USER_REGION), .unset, .unset, .unset, .unset, .unset, .unset] [])) _
        refine XS.iloadN X207.here hx rfl (hb hby at_16) rfl ?_
        show Steps p.tables e below (T207.setTop (mkF m 17 #[.val (.int p1), .val (.int p2), .val (.int p3), .val (.int p4), .val (.int (6 : Int32)), .val (.ref w_USER_REGION), .unset, .unset, .unset, .unset, .unset, .unset] [(.int p2)])) _
        refine XS.iconst X207.here hx rfl (hb hby at_17) ?_
        show Steps p.tables e below (T207.setTop (mkF m 18 #[.val (.int p1), .val (.int p2), .val (.int p3), .val (.int p4), .val (.int (6 : Int32)), .val (.ref w_USER_REGION), .unset, .unset, .unset, .unset, .unset, .unset] [(.int (1 : Int32)), (.int p2)])) _
        refine XS.iand X207.here hx rfl (hb hby at_18) rfl ?_
        exact k)
    by_cases hc209 : (p2 &&& (1 : Int32)) = (0 : Int32)
    · obtain ⟨T210, X210, e210, st210⟩ := getS2 X207 hx hZ hown (host := "") (Or.inl (hw _ (List.mem_of_getElem? (i := 84) rfl))) Via.refl e207 S_STRING (g := (mkF m 40 #[.val (.int p1), .val (.int p2), .val (.int p3), .val (.int p4), .val (.int (6 : Int32)), .val (.ref w_USER_REGION), .val (.int (0 : Int32)), .unset, .unset, .unset, .unset, .unset] [])) rfl (hb hby at_40)
      obtain ⟨T211, h211, k211, X211, e211, E211, A211, st211⟩ := newP X210 hx hZ (hw _ (List.mem_of_getElem? (i := 11) rfl)) e210 (g := (mkF m 46 #[.val (.int p1), .val (.int p2), .val (.int p3), .val (.int p4), .val (.int (6 : Int32)), .val (.ref w_USER_REGION), .val (.int (0 : Int32)), .val (.ref wS), .unset, .unset, .unset, .unset] [(.int (1 : Int32))])) rfl (hb hby at_46) rfl (by decide) (cap := 1) (by decide) (by decide) (by decide) (by decide)
      obtain ⟨b211, g211⟩ : ∃ z, z = h0.size := ⟨_, rfl⟩
      rw [← g211] at A211 st211
      have V_b211 : Arv Z h211 b211 k211 .char (1 : Int32) [(.int (0 : Int32))] (.int (0 : Int32)) := (Arv.new A211 (by decide)).pad (pad_rep [] (.int (0 : Int32)) 1)
      have g_b211 : n0 ≤ b211 := Nat.le_trans Z0 (Nat.le_of_eq g211.symm)
      have sz_b211 : h0.size ≤ b211 := Nat.le_trans ((Keep.refl h0 [])).1 (Nat.le_of_eq g211.symm)
      have K211 : Keep h0 h211 [] := ((Keep.refl h0 [])).ext E211
      obtain ⟨cl212, Ar212, q212, S212, N212_, H212, G212⟩ := id V_b211
      obtain ⟨T212, h212, X212, e212, W212, st212⟩ := stC X211 hx hZ e211 Ar212 (j := (0 : Int32)) (inb_of S212 ⟨by decide, by decide⟩) (g := (mkF m 56 #[.val (.int p1), .val (.int p2), .val (.int p3), .val (.int p4), .val (.int (6 : Int32)), .val (.ref w_USER_REGION), .val (.int (0 : Int32)), .val (.ref wS), .unset, .unset, .unset, .unset] [(.int ((p3 &&& (255 : Int32)).toUInt32.toUInt16.toUInt32.toInt32)), (.int (0 : Int32)), (.ref b211), (.ref b211)])) rfl rfl (hb hby at_56)
      have V212 := Arv.set Ar212 q212 S212 N212_ H212 G212 (fits_nar_char _) W212 0 rfl (Nat.le_of_ble_eq_true rfl)
      have K212 : Keep h0 h212 [] := (K211).wr W212 (Or.inr sz_b211)
      have N212 := Fr.snoc X212 N207 g_b211
      obtain ⟨T213, h213, X213, e213, E213, A213, D213, -, st213⟩ := newO X212 hx hZ hown (hw _ (List.mem_of_getElem? (i := 12) rfl)) (hw _ (List.mem_of_getElem? (i := 13) rfl)) (hw _ (List.mem_of_getElem? (i := 14) rfl)) e212 (g := (mkF m 59 #[.val (.int p1), .val (.int p2), .val (.int p3), .val (.int p4), .val (.int (6 : Int32)), .val (.ref w_USER_REGION), .val (.int (0 : Int32)), .val (.ref wS), .val (.ref b211), .unset, .unset, .unset] [])) rfl (hb hby at_59) (by decide) (by decide)
      obtain ⟨b213, g213⟩ : ∃ z, z = h212.size := ⟨_, rfl⟩
      rw [← g213] at A213 D213 st213
      have ne_b211_b213 : b211 ≠ b213 := Nat.ne_of_lt (Nat.lt_of_lt_of_le V212.lt (Nat.le_of_eq g213.symm))
      have g_b213 : n0 ≤ b213 := Nat.le_trans (Nat.le_trans Z0 K212.1) (Nat.le_of_eq g213.symm)
      have sz_b213 : h0.size ≤ b213 := Nat.le_trans (K212).1 (Nat.le_of_eq g213.symm)
      have K213 : Keep h0 h213 [] := (K212).ext E213
      have F213_kind : Fld Z h213 b213 "com/example/riscontro/riscontro/rules/Token" "kind" "Lcom/example/riscontro/riscontro/rules/Token$Kind;" .null := D213 (Or.inr (hw _ (List.mem_of_getElem? (i := 62) rfl))) (ty := (.object "com/example/riscontro/riscontro/rules/Token$Kind")) (by decide)
      have F213_text : Fld Z h213 b213 "com/example/riscontro/riscontro/rules/Token" "text" "Ljava/lang/String;" .null := D213 (Or.inr (hw _ (List.mem_of_getElem? (i := 64) rfl))) (ty := (.object "java/lang/String")) (by decide)
      have F213_start : Fld Z h213 b213 "com/example/riscontro/riscontro/rules/Token" "start" "I" (.int (0 : Int32)) := D213 (Or.inr (hw _ (List.mem_of_getElem? (i := 66) rfl))) (ty := .int) (by decide)
      have f214 := (V212.ext E213)
      obtain ⟨T215, h215, X215, e215, E215, A215, D215, -, st215⟩ := newO X213 hx hZ hown (hw _ (List.mem_of_getElem? (i := 15) rfl)) (hw _ (List.mem_of_getElem? (i := 16) rfl)) (hw _ (List.mem_of_getElem? (i := 17) rfl)) e213 (g := (mkF m 65 #[.val (.int p1), .val (.int p2), .val (.int p3), .val (.int p4), .val (.int (6 : Int32)), .val (.ref w_USER_REGION), .val (.int (0 : Int32)), .val (.ref wS), .val (.ref b211), .unset, .unset, .unset] [(.ref wS), (.ref b213), (.ref b213)])) rfl (hb hby at_65) (by decide) (by decide)
      obtain ⟨b215, g215⟩ : ∃ z, z = h213.size := ⟨_, rfl⟩
      rw [← g215] at A215 D215 st215
      have ne_b211_b215 : b211 ≠ b215 := Nat.ne_of_lt (Nat.lt_of_lt_of_le f214.lt (Nat.le_of_eq g215.symm))
      have ne_b213_b215 : b213 ≠ b215 := Nat.ne_of_lt (Nat.lt_of_lt_of_le A213.lt (Nat.le_of_eq g215.symm))
      have g_b215 : n0 ≤ b215 := Nat.le_trans (Nat.le_trans Z0 K213.1) (Nat.le_of_eq g215.symm)
      have sz_b215 : h0.size ≤ b215 := Nat.le_trans (K213).1 (Nat.le_of_eq g215.symm)
      have K215 : Keep h0 h215 [] := (K213).ext E215
      have F215_coder : Fld Z h215 b215 "java/lang/String" "coder" "B" (.int (0 : Int32)) := D215 (Or.inr (hw _ (List.mem_of_getElem? (i := 41) rfl))) (ty := .byte) (by decide)
      have F215_value : Fld Z h215 b215 "java/lang/String" "value" "[B" .null := D215 (Or.inr (hw _ (List.mem_of_getElem? (i := 43) rfl))) (ty := (.array .byte)) (by decide)
      have f216 := (f214.ext E215)
      have V217 : Arv Z h215 b211 _ .char (1 : Int32) (([nar .char ((p3 &&& (255 : Int32)).toUInt32.toUInt16.toUInt32.toInt32)] : List Int32).map Value.int) (.int (0 : Int32)) := f216
      have hws : ∀ d ∈ StrChars.Road.words, d.before a0 Z = true := fun d hd => hw d ((by decide +kernel : ∀ d ∈ StrChars.Road.words, d ∈ tables_1) d hd)
      obtain ⟨_, _, ⟨T218, L218, k218, n218⟩, -, X218, ⟨Lc218, hQ218, l218, y218, z218⟩, st218⟩ := X215.specialBack hx (y := (⟨"java/lang/String", "<init>", "([C)V"⟩ : MethodName)) rfl hown (mvT hZ (hw _ (List.mem_of_getElem? (i := 18) rfl))) (mvT hZ (hw _ (List.mem_of_getElem? (i := 19) rfl))) (mvT hZ (hw _ (List.mem_of_getElem? (i := 20) rfl))) (by decide) (StrChars.Road.backV (W := 4) hZ hws (kI := 4) (hw _ (List.mem_of_getElem? (i := 16) rfl)) (cs := [nar .char ((p3 &&& (255 : Int32)).toUInt32.toUInt16.toUInt32.toInt32)]) (bs := ([nar .char ((p3 &&& (255 : Int32)).toUInt32.toUInt16.toUInt32.toInt32)] : List Int32).map (fun c => c.toInt8.toInt32)) (n := 1) g_b215 (Nat.le_trans Z0 K215.1) A215 F215_value F215_coder V217 (Sta.ext (own_keep_ext K215) S_C) hzc rfl rfl (by decide) (by decide) (own_chrb p3) rfl (by decide) (by decide)) (g := (mkF m 71 #[.val (.int p1), .val (.int p2), .val (.int p3), .val (.int p4), .val (.int (6 : Int32)), .val (.ref w_USER_REGION), .val (.int (0 : Int32)), .val (.ref wS), .val (.ref b211), .unset, .unset, .unset] [(.ref b211), (.ref b215), (.ref b215), (.ref wS), (.ref b213), (.ref b213)])) rfl (by rw [hml]; rfl) (Steps.refl _) (a := b215) (argsL := [(.ref b211)]) (rest := [(.ref b215), (.ref wS), (.ref b213), (.ref b213)]) (lenOf pd_rm0_1 rfl) rfl (by show 2 * 0 + _ ≤ _; exact Nat.le_of_eq rfl) (hb hby at_71) (fun _ _ => ⟨rfl, e215, (by decide : 3 + 1 ≤ _), (by decide : 8 + 1 ≤ _)⟩)
      dsimp only [Pt.U, Pt.locs, Pt.cells, Pt.slots] at X218 l218 y218 z218 st218 hQ218
      subst l218 y218 z218
      obtain ⟨rfl, N218q, K218q, A218q, C218q, t218, k218, g2181, g2182, g2183, F218q, B218q⟩ := hQ218
      have N218 := Fr.app N212 N218q
      have K218 : Keep h0 T218.heap [] := (K215).trans K218q (allS (Or.inr sz_b215) all0)
      have f219 := ((Exa.ext E215 A213).keep K218q)
      have f220 := ((Fld.ext E215 F213_kind).keep K218q (ninS ne_b213_b215 nin0))
      have f221 := ((Fld.ext E215 F213_text).keep K218q (ninS ne_b213_b215 nin0))
      have f222 := ((Fld.ext E215 F213_start).keep K218q (ninS ne_b213_b215 nin0))
      obtain ⟨_, _, ⟨T223, L223, k223, n223⟩, -, X223, hS2_223, hg_223, ⟨Lc223, hQ223, l223, y223, z223⟩, st223⟩ := X218.specialBackS hx (y := (⟨"com/example/riscontro/riscontro/rules/Token", "<init>", "(Lcom/example/riscontro/riscontro/rules/Token$Kind;Ljava/lang/String;I)V"⟩ : MethodName)) rfl hown (mvT hZ (hw _ (List.mem_of_getElem? (i := 44) rfl))) (mvT hZ (hw _ (List.mem_of_getElem? (i := 45) rfl))) (mvT hZ (hw _ (List.mem_of_getElem? (i := 46) rfl))) (by decide) (backOfS (W := 1) (rmT l Z a0 hw [] b213 wS b215 (p4 &&& (2147483647 : Int32)) T218.heap n0 (Nat.le_trans Z0 K218.1) f219 f220 f221 f222 g_b213 (own_start p4)) hZ (hw _ (List.mem_of_getElem? (i := 46) rfl)) (hw _ (List.mem_of_getElem? (i := 14) rfl)) (by decide) (by decide)) (g := (mkF m 78 #[.val (.int p1), .val (.int p2), .val (.int p3), .val (.int p4), .val (.int (6 : Int32)), .val (.ref w_USER_REGION), .val (.int (0 : Int32)), .val (.ref wS), .val (.ref b211), .unset, .unset, .unset] [(.int (p4 &&& (2147483647 : Int32))), (.ref b215), (.ref wS), (.ref b213), (.ref b213)])) rfl (by rw [hml]; rfl) (Steps.refl _) (a := b213) (argsL := [(.ref wS), (.ref b215), (.int (p4 &&& (2147483647 : Int32)))]) (rest := [(.ref b213)]) (lenOf pd_rm0_2 rfl) rfl (by show 2 * 0 + _ ≤ _; exact Nat.le_of_eq rfl) (hb hby at_78) (fun _ _ => ⟨rfl, rfl, (by decide : 4 + 4 ≤ _), (by decide : 9 + 40 ≤ _)⟩)
      dsimp only [Pt.U, Pt.locs, Pt.cells, Pt.slots] at X223 l223 y223 z223 st223 hQ223
      subst l223 y223 z223
      obtain ⟨X223', hS223', hZ223', hown223'⟩ := rebS (s := s) (vm0 := s.vm) hS0 (show _ ≤ T218.heap.size by exact (Nat.le_trans (Nat.le_trans (Nat.le_trans (Nat.le_trans (Nat.le_trans (Nat.zero_le _) (E211).1) (Keep.of_wr W212).1) (E213).1) (E215).1) (K218q).1)) X223 hS2_223 hg_223 hZ hown
      obtain ⟨rfl, N223q, K223q, A223q, G223q⟩ := hQ223
      have N223 := Fr.app N218 N223q
      have K223 : Keep h0 T223.heap [] := (K218).trans K223q (allS (Or.inr sz_b213) all0)
      obtain ⟨cq224, kq224, q224a, q224b, q224c⟩ := isOf hZ223' rfl (Exa.ext (own_keep_ext K223) E_USER_REGION)
      obtain ⟨_, _, ⟨T224, L224, k224, n224⟩, -, X224, ⟨Lc224, hQ224, l224, y224, z224⟩, st224⟩ := X223'.virtualBack hx (y := (⟨"com/example/riscontro/riscontro/rules/Field", "takes", "(Lcom/example/riscontro/riscontro/rules/Token;)Z"⟩ : MethodName)) (z := (⟨"com/example/riscontro/riscontro/rules/Field", "takes", "(Lcom/example/riscontro/riscontro/rules/Token;)Z"⟩ : MethodName)) hown223' (mvT hZ223' (hw _ (List.mem_of_getElem? (i := 67) rfl))) (mvT hZ223' (hw _ (List.mem_of_getElem? (i := 68) rfl))) (notFace_of_selects (args := #[]) (mvT hZ223' (hw _ (List.mem_of_getElem? (i := 70) rfl)))) (mvT hZ223' (hw _ (List.mem_of_getElem? (i := 70) rfl))) (mvT hZ223' (hw _ (List.mem_of_getElem? (i := 69) rfl))) (by decide) (backOf (W := 0) (rmX l Z a0 hw [] w_USER_REGION b213 wS wS (1 : Int32) T223.heap n0 (Nat.le_trans Z0 K223.1) (Fld.ext (own_keep_ext K223) V_USER_REGION) G223q A223q (if_pos rfl)) hZ223' (hw _ (List.mem_of_getElem? (i := 71) rfl)) (hw _ (List.mem_of_getElem? (i := 6) rfl)) (by decide) (by decide)) q224a q224c (g := (mkF m 119 #[.val (.int p1), .val (.int p2), .val (.int p3), .val (.int p4), .val (.int (6 : Int32)), .val (.ref w_USER_REGION), .val (.int (0 : Int32)), .val (.ref wS), .val (.ref b211), .val (.ref b213), .val (.int (0 : Int32)), .val (.int (1 : Int32))] [(.ref b213), (.ref w_USER_REGION)])) rfl (by rw [hml]; rfl) (Steps.refl _) (argsL := [(.ref b213)]) (rest := []) (lenOf pd_rm0_3 rfl) rfl (by show 2 * 0 + _ ≤ _; exact Nat.le_of_eq rfl) (hb hby at_119) (fun _ _ => ⟨rfl, rfl, (by decide : 8 + 0 ≤ _), (by decide : 49 + 0 ≤ _)⟩)
      dsimp only [Pt.U, Pt.locs, Pt.cells, Pt.slots] at X224 l224 y224 z224 st224 hQ224
      subst l224 y224 z224
      obtain ⟨rfl, N224q, e224⟩ := hQ224
      have N224 := Fr.app N223 N224q
      obtain ⟨fs, hr, hrun, hended, hRW⟩ := Jvm.Stand.leaveW (s := s) (vm₁ := T223.vm) X224 hS223' (show _ ≤ T224.heap.size by rw [e224]; exact (Nat.le_refl T223.heap.size)) (v := some (.int (1 : Int32))) (fun h => by rw [Bd.returns] at h; cases h)
      refine ⟨_, _, pre208 _ ?_, hrun, hended, _, _, rfl, ?_, hRW.1, hRW.2.1, hRW.2.2.1, hRW.2.2.2.mono (by decide) (by decide)⟩
      · show Steps p.tables e below (T207.setTop (mkF m 19 #[.val (.int p1), .val (.int p2), .val (.int p3), .val (.int p4), .val (.int (6 : Int32)), .val (.ref w_USER_REGION), .unset, .unset, .unset, .unset, .unset, .unset] [(.int (p2 &&& (1 : Int32)))])) _
        refine XS.ifYes X207.here hx rfl (pc0 := 19) (pc' := 26) rfl (hb hby at_19) rfl ((if0 _ _).trans (teq hc209).1) (by decide) (by decide) ?_
        show Steps p.tables e below (T207.setTop (mkF m 26 #[.val (.int p1), .val (.int p2), .val (.int p3), .val (.int p4), .val (.int (6 : Int32)), .val (.ref w_USER_REGION), .unset, .unset, .unset, .unset, .unset, .unset] [])) _
        refine XS.iconst X207.here hx rfl (hb hby at_26) ?_
        show Steps p.tables e below (T207.setTop (mkF m 27 #[.val (.int p1), .val (.int p2), .val (.int p3), .val (.int p4), .val (.int (6 : Int32)), .val (.ref w_USER_REGION), .unset, .unset, .unset, .unset, .unset, .unset] [(.int (0 : Int32))])) _
        refine XS.istore X207.here hx rfl (hb hby at_27) rfl (l' := #[.val (.int p1), .val (.int p2), .val (.int p3), .val (.int p4), .val (.int (6 : Int32)), .val (.ref w_USER_REGION), .val (.int (0 : Int32)), .unset, .unset, .unset, .unset, .unset]) rfl ?_
        show Steps p.tables e below (T207.setTop (mkF m 29 #[.val (.int p1), .val (.int p2), .val (.int p3), .val (.int p4), .val (.int (6 : Int32)), .val (.ref w_USER_REGION), .val (.int (0 : Int32)), .unset, .unset, .unset, .unset, .unset] [])) _
        refine XS.iload X207.here hx rfl (hb hby at_29) rfl ?_
        show Steps p.tables e below (T207.setTop (mkF m 31 #[.val (.int p1), .val (.int p2), .val (.int p3), .val (.int p4), .val (.int (6 : Int32)), .val (.ref w_USER_REGION), .val (.int (0 : Int32)), .unset, .unset, .unset, .unset, .unset] [(.int (0 : Int32))])) _
        refine XS.ifYes X207.here hx rfl (pc0 := 31) (pc' := 40) rfl (hb hby at_31) rfl ((if0 _ _).trans (teq (rfl : (0 : Int32) = (0 : Int32))).1) (by decide) (by decide) ?_
        show Steps p.tables e below (T207.setTop (mkF m 40 #[.val (.int p1), .val (.int p2), .val (.int p3), .val (.int p4), .val (.int (6 : Int32)), .val (.ref w_USER_REGION), .val (.int (0 : Int32)), .unset, .unset, .unset, .unset, .unset] [])) _
        refine st210 _ ?_
        show Steps p.tables e below (T210.setTop (mkF m 43 #[.val (.int p1), .val (.int p2), .val (.int p3), .val (.int p4), .val (.int (6 : Int32)), .val (.ref w_USER_REGION), .val (.int (0 : Int32)), .unset, .unset, .unset, .unset, .unset] [(.ref wS)])) _
        refine XS.astore X210.here hx rfl (hb hby at_43) rfl rfl (l' := #[.val (.int p1), .val (.int p2), .val (.int p3), .val (.int p4), .val (.int (6 : Int32)), .val (.ref w_USER_REGION), .val (.int (0 : Int32)), .val (.ref wS), .unset, .unset, .unset, .unset]) rfl ?_
        show Steps p.tables e below (T210.setTop (mkF m 45 #[.val (.int p1), .val (.int p2), .val (.int p3), .val (.int p4), .val (.int (6 : Int32)), .val (.ref w_USER_REGION), .val (.int (0 : Int32)), .val (.ref wS), .unset, .unset, .unset, .unset] [])) _
        refine XS.iconst X210.here hx rfl (hb hby at_45) ?_
        show Steps p.tables e below (T210.setTop (mkF m 46 #[.val (.int p1), .val (.int p2), .val (.int p3), .val (.int p4), .val (.int (6 : Int32)), .val (.ref w_USER_REGION), .val (.int (0 : Int32)), .val (.ref wS), .unset, .unset, .unset, .unset] [(.int (1 : Int32))])) _
        refine st211 _ ?_
        show Steps p.tables e below (T211.setTop (mkF m 48 #[.val (.int p1), .val (.int p2), .val (.int p3), .val (.int p4), .val (.int (6 : Int32)), .val (.ref w_USER_REGION), .val (.int (0 : Int32)), .val (.ref wS), .unset, .unset, .unset, .unset] [(.ref b211)])) _
        refine XS.dup X211.here hx rfl (hb hby at_48) rfl rfl ?_
        show Steps p.tables e below (T211.setTop (mkF m 49 #[.val (.int p1), .val (.int p2), .val (.int p3), .val (.int p4), .val (.int (6 : Int32)), .val (.ref w_USER_REGION), .val (.int (0 : Int32)), .val (.ref wS), .unset, .unset, .unset, .unset] [(.ref b211), (.ref b211)])) _
        refine XS.iconst X211.here hx rfl (hb hby at_49) ?_
        show Steps p.tables e below (T211.setTop (mkF m 50 #[.val (.int p1), .val (.int p2), .val (.int p3), .val (.int p4), .val (.int (6 : Int32)), .val (.ref w_USER_REGION), .val (.int (0 : Int32)), .val (.ref wS), .unset, .unset, .unset, .unset] [(.int (0 : Int32)), (.ref b211), (.ref b211)])) _
        refine XS.iloadN X211.here hx rfl (hb hby at_50) rfl ?_
        show Steps p.tables e below (T211.setTop (mkF m 51 #[.val (.int p1), .val (.int p2), .val (.int p3), .val (.int p4), .val (.int (6 : Int32)), .val (.ref w_USER_REGION), .val (.int (0 : Int32)), .val (.ref wS), .unset, .unset, .unset, .unset] [(.int p3), (.int (0 : Int32)), (.ref b211), (.ref b211)])) _
        refine XS.sipush X211.here hx rfl (hb hby at_51) ?_
        show Steps p.tables e below (T211.setTop (mkF m 54 #[.val (.int p1), .val (.int p2), .val (.int p3), .val (.int p4), .val (.int (6 : Int32)), .val (.ref w_USER_REGION), .val (.int (0 : Int32)), .val (.ref wS), .unset, .unset, .unset, .unset] [(.int (255 : Int32)), (.int p3), (.int (0 : Int32)), (.ref b211), (.ref b211)])) _
        refine XS.iand X211.here hx rfl (hb hby at_54) rfl ?_
        show Steps p.tables e below (T211.setTop (mkF m 55 #[.val (.int p1), .val (.int p2), .val (.int p3), .val (.int p4), .val (.int (6 : Int32)), .val (.ref w_USER_REGION), .val (.int (0 : Int32)), .val (.ref wS), .unset, .unset, .unset, .unset] [(.int (p3 &&& (255 : Int32))), (.int (0 : Int32)), (.ref b211), (.ref b211)])) _
        refine XS.i2c X211.here hx rfl (hb hby at_55) rfl ?_
        show Steps p.tables e below (T211.setTop (mkF m 56 #[.val (.int p1), .val (.int p2), .val (.int p3), .val (.int p4), .val (.int (6 : Int32)), .val (.ref w_USER_REGION), .val (.int (0 : Int32)), .val (.ref wS), .unset, .unset, .unset, .unset] [(.int ((p3 &&& (255 : Int32)).toUInt32.toUInt16.toUInt32.toInt32)), (.int (0 : Int32)), (.ref b211), (.ref b211)])) _
        refine st212 _ ?_
        show Steps p.tables e below (T212.setTop (mkF m 57 #[.val (.int p1), .val (.int p2), .val (.int p3), .val (.int p4), .val (.int (6 : Int32)), .val (.ref w_USER_REGION), .val (.int (0 : Int32)), .val (.ref wS), .unset, .unset, .unset, .unset] [(.ref b211)])) _
        refine XS.astore X212.here hx rfl (hb hby at_57) rfl rfl (l' := #[.val (.int p1), .val (.int p2), .val (.int p3), .val (.int p4), .val (.int (6 : Int32)), .val (.ref w_USER_REGION), .val (.int (0 : Int32)), .val (.ref wS), .val (.ref b211), .unset, .unset, .unset]) rfl ?_
        show Steps p.tables e below (T212.setTop (mkF m 59 #[.val (.int p1), .val (.int p2), .val (.int p3), .val (.int p4), .val (.int (6 : Int32)), .val (.ref w_USER_REGION), .val (.int (0 : Int32)), .val (.ref wS), .val (.ref b211), .unset, .unset, .unset] [])) _
        refine st213 _ ?_
        show Steps p.tables e below (T213.setTop (mkF m 62 #[.val (.int p1), .val (.int p2), .val (.int p3), .val (.int p4), .val (.int (6 : Int32)), .val (.ref w_USER_REGION), .val (.int (0 : Int32)), .val (.ref wS), .val (.ref b211), .unset, .unset, .unset] [(.ref b213)])) _
        refine XS.dup X213.here hx rfl (hb hby at_62) rfl rfl ?_
        show Steps p.tables e below (T213.setTop (mkF m 63 #[.val (.int p1), .val (.int p2), .val (.int p3), .val (.int p4), .val (.int (6 : Int32)), .val (.ref w_USER_REGION), .val (.int (0 : Int32)), .val (.ref wS), .val (.ref b211), .unset, .unset, .unset] [(.ref b213), (.ref b213)])) _
        refine XS.aload X213.here hx rfl (hb hby at_63) rfl rfl ?_
        show Steps p.tables e below (T213.setTop (mkF m 65 #[.val (.int p1), .val (.int p2), .val (.int p3), .val (.int p4), .val (.int (6 : Int32)), .val (.ref w_USER_REGION), .val (.int (0 : Int32)), .val (.ref wS), .val (.ref b211), .unset, .unset, .unset] [(.ref wS), (.ref b213), (.ref b213)])) _
        refine st215 _ ?_
        show Steps p.tables e below (T215.setTop (mkF m 68 #[.val (.int p1), .val (.int p2), .val (.int p3), .val (.int p4), .val (.int (6 : Int32)), .val (.ref w_USER_REGION), .val (.int (0 : Int32)), .val (.ref wS), .val (.ref b211), .unset, .unset, .unset] [(.ref b215), (.ref wS), (.ref b213), (.ref b213)])) _
        refine XS.dup X215.here hx rfl (hb hby at_68) rfl rfl ?_
        show Steps p.tables e below (T215.setTop (mkF m 69 #[.val (.int p1), .val (.int p2), .val (.int p3), .val (.int p4), .val (.int (6 : Int32)), .val (.ref w_USER_REGION), .val (.int (0 : Int32)), .val (.ref wS), .val (.ref b211), .unset, .unset, .unset] [(.ref b215), (.ref b215), (.ref wS), (.ref b213), (.ref b213)])) _
        refine XS.aload X215.here hx rfl (hb hby at_69) rfl rfl ?_
        show Steps p.tables e below (T215.setTop (mkF m 71 #[.val (.int p1), .val (.int p2), .val (.int p3), .val (.int p4), .val (.int (6 : Int32)), .val (.ref w_USER_REGION), .val (.int (0 : Int32)), .val (.ref wS), .val (.ref b211), .unset, .unset, .unset] [(.ref b211), (.ref b215), (.ref b215), (.ref wS), (.ref b213), (.ref b213)])) _
        refine st218.trans ?_
        show Steps p.tables e below (T218.setTop (mkF m 74 #[.val (.int p1), .val (.int p2), .val (.int p3), .val (.int p4), .val (.int (6 : Int32)), .val (.ref w_USER_REGION), .val (.int (0 : Int32)), .val (.ref wS), .val (.ref b211), .unset, .unset, .unset] [(.ref b215), (.ref wS), (.ref b213), (.ref b213)])) _
        refine XS.iloadN X218.here hx rfl (hb hby at_74) rfl ?_
        show Steps p.tables e below (T218.setTop (mkF m 75 #[.val (.int p1), .val (.int p2), .val (.int p3), .val (.int p4), .val (.int (6 : Int32)), .val (.ref w_USER_REGION), .val (.int (0 : Int32)), .val (.ref wS), .val (.ref b211), .unset, .unset, .unset] [(.int p4), (.ref b215), (.ref wS), (.ref b213), (.ref b213)])) _
        refine X218.ldcInt hx hown (mvT hZ (hw _ (List.mem_of_getElem? (i := 0) rfl))) (g := (mkF m 75 #[.val (.int p1), .val (.int p2), .val (.int p3), .val (.int p4), .val (.int (6 : Int32)), .val (.ref w_USER_REGION), .val (.int (0 : Int32)), .val (.ref wS), .val (.ref b211), .unset, .unset, .unset] [(.int p4), (.ref b215), (.ref wS), (.ref b213), (.ref b213)])) rfl (hb hby at_75) _ ?_
        show Steps p.tables e below (T218.setTop (mkF m 77 #[.val (.int p1), .val (.int p2), .val (.int p3), .val (.int p4), .val (.int (6 : Int32)), .val (.ref w_USER_REGION), .val (.int (0 : Int32)), .val (.ref wS), .val (.ref b211), .unset, .unset, .unset] [(.int (2147483647 : Int32)), (.int p4), (.ref b215), (.ref wS), (.ref b213), (.ref b213)])) _
        refine XS.iand X218.here hx rfl (hb hby at_77) rfl ?_
        show Steps p.tables e below (T218.setTop (mkF m 78 #[.val (.int p1), .val (.int p2), .val (.int p3), .val (.int p4), .val (.int (6 : Int32)), .val (.ref w_USER_REGION), .val (.int (0 : Int32)), .val (.ref wS), .val (.ref b211), .unset, .unset, .unset] [(.int (p4 &&& (2147483647 : Int32))), (.ref b215), (.ref wS), (.ref b213), (.ref b213)])) _
        refine st223.trans ?_
        show Steps p.tables e below (T223.setTop (mkF m 81 #[.val (.int p1), .val (.int p2), .val (.int p3), .val (.int p4), .val (.int (6 : Int32)), .val (.ref w_USER_REGION), .val (.int (0 : Int32)), .val (.ref wS), .val (.ref b211), .unset, .unset, .unset] [(.ref b213)])) _
        refine XS.astore X223'.here hx rfl (hb hby at_81) rfl rfl (l' := #[.val (.int p1), .val (.int p2), .val (.int p3), .val (.int p4), .val (.int (6 : Int32)), .val (.ref w_USER_REGION), .val (.int (0 : Int32)), .val (.ref wS), .val (.ref b211), .val (.ref b213), .unset, .unset]) rfl ?_
        show Steps p.tables e below (T223.setTop (mkF m 83 #[.val (.int p1), .val (.int p2), .val (.int p3), .val (.int p4), .val (.int (6 : Int32)), .val (.ref w_USER_REGION), .val (.int (0 : Int32)), .val (.ref wS), .val (.ref b211), .val (.ref b213), .unset, .unset] [])) _
        refine XS.iload X223'.here hx rfl (hb hby at_83) rfl ?_
        show Steps p.tables e below (T223.setTop (mkF m 85 #[.val (.int p1), .val (.int p2), .val (.int p3), .val (.int p4), .val (.int (6 : Int32)), .val (.ref w_USER_REGION), .val (.int (0 : Int32)), .val (.ref wS), .val (.ref b211), .val (.ref b213), .unset, .unset] [(.int (6 : Int32))])) _
        refine XS.ifNo X223'.here hx rfl (hb hby at_85) rfl ((if0 _ _).trans (feq (by decide : ¬ ((6 : Int32) = (0 : Int32)))).1) ?_
        show Steps p.tables e below (T223.setTop (mkF m 88 #[.val (.int p1), .val (.int p2), .val (.int p3), .val (.int p4), .val (.int (6 : Int32)), .val (.ref w_USER_REGION), .val (.int (0 : Int32)), .val (.ref wS), .val (.ref b211), .val (.ref b213), .unset, .unset] [])) _
        refine XS.iload X223'.here hx rfl (hb hby at_88) rfl ?_
        show Steps p.tables e below (T223.setTop (mkF m 90 #[.val (.int p1), .val (.int p2), .val (.int p3), .val (.int p4), .val (.int (6 : Int32)), .val (.ref w_USER_REGION), .val (.int (0 : Int32)), .val (.ref wS), .val (.ref b211), .val (.ref b213), .unset, .unset] [(.int (6 : Int32))])) _
        refine XS.iconst X223'.here hx rfl (hb hby at_90) ?_
        show Steps p.tables e below (T223.setTop (mkF m 91 #[.val (.int p1), .val (.int p2), .val (.int p3), .val (.int p4), .val (.int (6 : Int32)), .val (.ref w_USER_REGION), .val (.int (0 : Int32)), .val (.ref wS), .val (.ref b211), .val (.ref b213), .unset, .unset] [(.int (5 : Int32)), (.int (6 : Int32))])) _
        refine XS.icmpYes X223'.here hx rfl (pc0 := 91) (pc' := 98) rfl (hb hby at_91) rfl (feq (by decide : ¬ ((6 : Int32) = (5 : Int32)))).2 (by decide) (by decide) ?_
        show Steps p.tables e below (T223.setTop (mkF m 98 #[.val (.int p1), .val (.int p2), .val (.int p3), .val (.int p4), .val (.int (6 : Int32)), .val (.ref w_USER_REGION), .val (.int (0 : Int32)), .val (.ref wS), .val (.ref b211), .val (.ref b213), .unset, .unset] [])) _
        refine XS.iconst X223'.here hx rfl (hb hby at_98) ?_
        show Steps p.tables e below (T223.setTop (mkF m 99 #[.val (.int p1), .val (.int p2), .val (.int p3), .val (.int p4), .val (.int (6 : Int32)), .val (.ref w_USER_REGION), .val (.int (0 : Int32)), .val (.ref wS), .val (.ref b211), .val (.ref b213), .unset, .unset] [(.int (0 : Int32))])) _
        refine XS.istore X223'.here hx rfl (hb hby at_99) rfl (l' := #[.val (.int p1), .val (.int p2), .val (.int p3), .val (.int p4), .val (.int (6 : Int32)), .val (.ref w_USER_REGION), .val (.int (0 : Int32)), .val (.ref wS), .val (.ref b211), .val (.ref b213), .val (.int (0 : Int32)), .unset]) rfl ?_
        show Steps p.tables e below (T223.setTop (mkF m 101 #[.val (.int p1), .val (.int p2), .val (.int p3), .val (.int p4), .val (.int (6 : Int32)), .val (.ref w_USER_REGION), .val (.int (0 : Int32)), .val (.ref wS), .val (.ref b211), .val (.ref b213), .val (.int (0 : Int32)), .unset] [])) _
        refine XS.iload X223'.here hx rfl (hb hby at_101) rfl ?_
        show Steps p.tables e below (T223.setTop (mkF m 103 #[.val (.int p1), .val (.int p2), .val (.int p3), .val (.int p4), .val (.int (6 : Int32)), .val (.ref w_USER_REGION), .val (.int (0 : Int32)), .val (.ref wS), .val (.ref b211), .val (.ref b213), .val (.int (0 : Int32)), .unset] [(.int (0 : Int32))])) _
        refine XS.iload X223'.here hx rfl (hb hby at_103) rfl ?_
        show Steps p.tables e below (T223.setTop (mkF m 105 #[.val (.int p1), .val (.int p2), .val (.int p3), .val (.int p4), .val (.int (6 : Int32)), .val (.ref w_USER_REGION), .val (.int (0 : Int32)), .val (.ref wS), .val (.ref b211), .val (.ref b213), .val (.int (0 : Int32)), .unset] [(.int (0 : Int32)), (.int (0 : Int32))])) _
        refine XS.icmpNo X223'.here hx rfl (hb hby at_105) rfl (teq (rfl : (0 : Int32) = (0 : Int32))).2 ?_
        show Steps p.tables e below (T223.setTop (mkF m 108 #[.val (.int p1), .val (.int p2), .val (.int p3), .val (.int p4), .val (.int (6 : Int32)), .val (.ref w_USER_REGION), .val (.int (0 : Int32)), .val (.ref wS), .val (.ref b211), .val (.ref b213), .val (.int (0 : Int32)), .unset] [])) _
        refine XS.iconst X223'.here hx rfl (hb hby at_108) ?_
        show Steps p.tables e below (T223.setTop (mkF m 109 #[.val (.int p1), .val (.int p2), .val (.int p3), .val (.int p4), .val (.int (6 : Int32)), .val (.ref w_USER_REGION), .val (.int (0 : Int32)), .val (.ref wS), .val (.ref b211), .val (.ref b213), .val (.int (0 : Int32)), .unset] [(.int (1 : Int32))])) _
        refine XS.goto X223'.here hx rfl (pc0 := 109) (pc' := 113) rfl (hb hby at_109) (by decide) (by decide) ?_
        show Steps p.tables e below (T223.setTop (mkF m 113 #[.val (.int p1), .val (.int p2), .val (.int p3), .val (.int p4), .val (.int (6 : Int32)), .val (.ref w_USER_REGION), .val (.int (0 : Int32)), .val (.ref wS), .val (.ref b211), .val (.ref b213), .val (.int (0 : Int32)), .unset] [(.int (1 : Int32))])) _
        refine XS.istore X223'.here hx rfl (hb hby at_113) rfl (l' := #[.val (.int p1), .val (.int p2), .val (.int p3), .val (.int p4), .val (.int (6 : Int32)), .val (.ref w_USER_REGION), .val (.int (0 : Int32)), .val (.ref wS), .val (.ref b211), .val (.ref b213), .val (.int (0 : Int32)), .val (.int (1 : Int32))]) rfl ?_
        show Steps p.tables e below (T223.setTop (mkF m 115 #[.val (.int p1), .val (.int p2), .val (.int p3), .val (.int p4), .val (.int (6 : Int32)), .val (.ref w_USER_REGION), .val (.int (0 : Int32)), .val (.ref wS), .val (.ref b211), .val (.ref b213), .val (.int (0 : Int32)), .val (.int (1 : Int32))] [])) _
        refine XS.aload X223'.here hx rfl (hb hby at_115) rfl rfl ?_
        show Steps p.tables e below (T223.setTop (mkF m 117 #[.val (.int p1), .val (.int p2), .val (.int p3), .val (.int p4), .val (.int (6 : Int32)), .val (.ref w_USER_REGION), .val (.int (0 : Int32)), .val (.ref wS), .val (.ref b211), .val (.ref b213), .val (.int (0 : Int32)), .val (.int (1 : Int32))] [(.ref w_USER_REGION)])) _
        refine XS.aload X223'.here hx rfl (hb hby at_117) rfl rfl ?_
        show Steps p.tables e below (T223.setTop (mkF m 119 #[.val (.int p1), .val (.int p2), .val (.int p3), .val (.int p4), .val (.int (6 : Int32)), .val (.ref w_USER_REGION), .val (.int (0 : Int32)), .val (.ref wS), .val (.ref b211), .val (.ref b213), .val (.int (0 : Int32)), .val (.int (1 : Int32))] [(.ref b213), (.ref w_USER_REGION)])) _
        refine st224.trans ?_
        show Steps p.tables e below (T224.setTop (mkF m 122 #[.val (.int p1), .val (.int p2), .val (.int p3), .val (.int p4), .val (.int (6 : Int32)), .val (.ref w_USER_REGION), .val (.int (0 : Int32)), .val (.ref wS), .val (.ref b211), .val (.ref b213), .val (.int (0 : Int32)), .val (.int (1 : Int32))] [(.int (1 : Int32))])) _
        refine XS.iload X224.here hx rfl (hb hby at_122) rfl ?_
        show Steps p.tables e below (T224.setTop (mkF m 124 #[.val (.int p1), .val (.int p2), .val (.int p3), .val (.int p4), .val (.int (6 : Int32)), .val (.ref w_USER_REGION), .val (.int (0 : Int32)), .val (.ref wS), .val (.ref b211), .val (.ref b213), .val (.int (0 : Int32)), .val (.int (1 : Int32))] [(.int (1 : Int32)), (.int (1 : Int32))])) _
        refine XS.icmpNo X224.here hx rfl (hb hby at_124) rfl (teq (rfl : (1 : Int32) = (1 : Int32))).2 ?_
        show Steps p.tables e below (T224.setTop (mkF m 127 #[.val (.int p1), .val (.int p2), .val (.int p3), .val (.int p4), .val (.int (6 : Int32)), .val (.ref w_USER_REGION), .val (.int (0 : Int32)), .val (.ref wS), .val (.ref b211), .val (.ref b213), .val (.int (0 : Int32)), .val (.int (1 : Int32))] [])) _
        refine XS.iconst X224.here hx rfl (hb hby at_127) ?_
        show Steps p.tables e below (T224.setTop (mkF m 128 #[.val (.int p1), .val (.int p2), .val (.int p3), .val (.int p4), .val (.int (6 : Int32)), .val (.ref w_USER_REGION), .val (.int (0 : Int32)), .val (.ref wS), .val (.ref b211), .val (.ref b213), .val (.int (0 : Int32)), .val (.int (1 : Int32))] [(.int (1 : Int32))])) _
        refine XS.goto X224.here hx rfl (pc0 := 128) (pc' := 132) rfl (hb hby at_128) (by decide) (by decide) ?_
        show Steps p.tables e below (T224.setTop (mkF m 132 #[.val (.int p1), .val (.int p2), .val (.int p3), .val (.int p4), .val (.int (6 : Int32)), .val (.ref w_USER_REGION), .val (.int (0 : Int32)), .val (.ref wS), .val (.ref b211), .val (.ref b213), .val (.int (0 : Int32)), .val (.int (1 : Int32))] [(.int (1 : Int32))])) _
        exact retN X224 hx (t := .boolean) Bd.returns (by simp) (hb hby at_132) hr
      · show Q_rm0 Z p1 p2 p3 p4 w_AMOUNT w_CURRENCY w_MERCHANT_ID w_IP_ADDRESS w_DEVICE_ID w_USER_AGE w_USER_REGION wN wS zc h0 n0 _ T224.heap _
        rw [e224]
        exact ⟨rfl, N224⟩
    · obtain ⟨T225, X225, e225, st225⟩ := getS2 X207 hx hZ hown (host := "") (Or.inl (hw _ (List.mem_of_getElem? (i := 8) rfl))) Via.refl e207 S_NUMBER (g := (mkF m 34 #[.val (.int p1), .val (.int p2), .val (.int p3), .val (.int p4), .val (.int (6 : Int32)), .val (.ref w_USER_REGION), .val (.int (1 : Int32)), .unset, .unset, .unset, .unset, .unset] [])) rfl (hb hby at_34)
      obtain ⟨T226, h226, k226, X226, e226, E226, A226, st226⟩ := newP X225 hx hZ (hw _ (List.mem_of_getElem? (i := 11) rfl)) e225 (g := (mkF m 46 #[.val (.int p1), .val (.int p2), .val (.int p3), .val (.int p4), .val (.int (6 : Int32)), .val (.ref w_USER_REGION), .val (.int (1 : Int32)), .val (.ref wN), .unset, .unset, .unset, .unset] [(.int (1 : Int32))])) rfl (hb hby at_46) rfl (by decide) (cap := 1) (by decide) (by decide) (by decide) (by decide)
      obtain ⟨b226, g226⟩ : ∃ z, z = h0.size := ⟨_, rfl⟩
      rw [← g226] at A226 st226
      have V_b226 : Arv Z h226 b226 k226 .char (1 : Int32) [(.int (0 : Int32))] (.int (0 : Int32)) := (Arv.new A226 (by decide)).pad (pad_rep [] (.int (0 : Int32)) 1)
      have g_b226 : n0 ≤ b226 := Nat.le_trans Z0 (Nat.le_of_eq g226.symm)
      have sz_b226 : h0.size ≤ b226 := Nat.le_trans ((Keep.refl h0 [])).1 (Nat.le_of_eq g226.symm)
      have K226 : Keep h0 h226 [] := ((Keep.refl h0 [])).ext E226
      obtain ⟨cl227, Ar227, q227, S227, N227_, H227, G227⟩ := id V_b226
      obtain ⟨T227, h227, X227, e227, W227, st227⟩ := stC X226 hx hZ e226 Ar227 (j := (0 : Int32)) (inb_of S227 ⟨by decide, by decide⟩) (g := (mkF m 56 #[.val (.int p1), .val (.int p2), .val (.int p3), .val (.int p4), .val (.int (6 : Int32)), .val (.ref w_USER_REGION), .val (.int (1 : Int32)), .val (.ref wN), .unset, .unset, .unset, .unset] [(.int ((p3 &&& (255 : Int32)).toUInt32.toUInt16.toUInt32.toInt32)), (.int (0 : Int32)), (.ref b226), (.ref b226)])) rfl rfl (hb hby at_56)
      have V227 := Arv.set Ar227 q227 S227 N227_ H227 G227 (fits_nar_char _) W227 0 rfl (Nat.le_of_ble_eq_true rfl)
      have K227 : Keep h0 h227 [] := (K226).wr W227 (Or.inr sz_b226)
      have N227 := Fr.snoc X227 N207 g_b226
      obtain ⟨T228, h228, X228, e228, E228, A228, D228, -, st228⟩ := newO X227 hx hZ hown (hw _ (List.mem_of_getElem? (i := 12) rfl)) (hw _ (List.mem_of_getElem? (i := 13) rfl)) (hw _ (List.mem_of_getElem? (i := 14) rfl)) e227 (g := (mkF m 59 #[.val (.int p1), .val (.int p2), .val (.int p3), .val (.int p4), .val (.int (6 : Int32)), .val (.ref w_USER_REGION), .val (.int (1 : Int32)), .val (.ref wN), .val (.ref b226), .unset, .unset, .unset] [])) rfl (hb hby at_59) (by decide) (by decide)
      obtain ⟨b228, g228⟩ : ∃ z, z = h227.size := ⟨_, rfl⟩
      rw [← g228] at A228 D228 st228
      have ne_b226_b228 : b226 ≠ b228 := Nat.ne_of_lt (Nat.lt_of_lt_of_le V227.lt (Nat.le_of_eq g228.symm))
      have g_b228 : n0 ≤ b228 := Nat.le_trans (Nat.le_trans Z0 K227.1) (Nat.le_of_eq g228.symm)
      have sz_b228 : h0.size ≤ b228 := Nat.le_trans (K227).1 (Nat.le_of_eq g228.symm)
      have K228 : Keep h0 h228 [] := (K227).ext E228
      have F228_kind : Fld Z h228 b228 "com/example/riscontro/riscontro/rules/Token" "kind" "Lcom/example/riscontro/riscontro/rules/Token$Kind;" .null := D228 (Or.inr (hw _ (List.mem_of_getElem? (i := 62) rfl))) (ty := (.object "com/example/riscontro/riscontro/rules/Token$Kind")) (by decide)
      have F228_text : Fld Z h228 b228 "com/example/riscontro/riscontro/rules/Token" "text" "Ljava/lang/String;" .null := D228 (Or.inr (hw _ (List.mem_of_getElem? (i := 64) rfl))) (ty := (.object "java/lang/String")) (by decide)
      have F228_start : Fld Z h228 b228 "com/example/riscontro/riscontro/rules/Token" "start" "I" (.int (0 : Int32)) := D228 (Or.inr (hw _ (List.mem_of_getElem? (i := 66) rfl))) (ty := .int) (by decide)
      have f229 := (V227.ext E228)
      obtain ⟨T230, h230, X230, e230, E230, A230, D230, -, st230⟩ := newO X228 hx hZ hown (hw _ (List.mem_of_getElem? (i := 15) rfl)) (hw _ (List.mem_of_getElem? (i := 16) rfl)) (hw _ (List.mem_of_getElem? (i := 17) rfl)) e228 (g := (mkF m 65 #[.val (.int p1), .val (.int p2), .val (.int p3), .val (.int p4), .val (.int (6 : Int32)), .val (.ref w_USER_REGION), .val (.int (1 : Int32)), .val (.ref wN), .val (.ref b226), .unset, .unset, .unset] [(.ref wN), (.ref b228), (.ref b228)])) rfl (hb hby at_65) (by decide) (by decide)
      obtain ⟨b230, g230⟩ : ∃ z, z = h228.size := ⟨_, rfl⟩
      rw [← g230] at A230 D230 st230
      have ne_b226_b230 : b226 ≠ b230 := Nat.ne_of_lt (Nat.lt_of_lt_of_le f229.lt (Nat.le_of_eq g230.symm))
      have ne_b228_b230 : b228 ≠ b230 := Nat.ne_of_lt (Nat.lt_of_lt_of_le A228.lt (Nat.le_of_eq g230.symm))
      have g_b230 : n0 ≤ b230 := Nat.le_trans (Nat.le_trans Z0 K228.1) (Nat.le_of_eq g230.symm)
      have sz_b230 : h0.size ≤ b230 := Nat.le_trans (K228).1 (Nat.le_of_eq g230.symm)
      have K230 : Keep h0 h230 [] := (K228).ext E230
      have F230_coder : Fld Z h230 b230 "java/lang/String" "coder" "B" (.int (0 : Int32)) := D230 (Or.inr (hw _ (List.mem_of_getElem? (i := 41) rfl))) (ty := .byte) (by decide)
      have F230_value : Fld Z h230 b230 "java/lang/String" "value" "[B" .null := D230 (Or.inr (hw _ (List.mem_of_getElem? (i := 43) rfl))) (ty := (.array .byte)) (by decide)
      have f231 := (f229.ext E230)
      have V232 : Arv Z h230 b226 _ .char (1 : Int32) (([nar .char ((p3 &&& (255 : Int32)).toUInt32.toUInt16.toUInt32.toInt32)] : List Int32).map Value.int) (.int (0 : Int32)) := f231
      have hws : ∀ d ∈ StrChars.Road.words, d.before a0 Z = true := fun d hd => hw d ((by decide +kernel : ∀ d ∈ StrChars.Road.words, d ∈ tables_1) d hd)
      obtain ⟨_, _, ⟨T233, L233, k233, n233⟩, -, X233, ⟨Lc233, hQ233, l233, y233, z233⟩, st233⟩ := X230.specialBack hx (y := (⟨"java/lang/String", "<init>", "([C)V"⟩ : MethodName)) rfl hown (mvT hZ (hw _ (List.mem_of_getElem? (i := 18) rfl))) (mvT hZ (hw _ (List.mem_of_getElem? (i := 19) rfl))) (mvT hZ (hw _ (List.mem_of_getElem? (i := 20) rfl))) (by decide) (StrChars.Road.backV (W := 4) hZ hws (kI := 4) (hw _ (List.mem_of_getElem? (i := 16) rfl)) (cs := [nar .char ((p3 &&& (255 : Int32)).toUInt32.toUInt16.toUInt32.toInt32)]) (bs := ([nar .char ((p3 &&& (255 : Int32)).toUInt32.toUInt16.toUInt32.toInt32)] : List Int32).map (fun c => c.toInt8.toInt32)) (n := 1) g_b230 (Nat.le_trans Z0 K230.1) A230 F230_value F230_coder V232 (Sta.ext (own_keep_ext K230) S_C) hzc rfl rfl (by decide) (by decide) (own_chrb p3) rfl (by decide) (by decide)) (g := (mkF m 71 #[.val (.int p1), .val (.int p2), .val (.int p3), .val (.int p4), .val (.int (6 : Int32)), .val (.ref w_USER_REGION), .val (.int (1 : Int32)), .val (.ref wN), .val (.ref b226), .unset, .unset, .unset] [(.ref b226), (.ref b230), (.ref b230), (.ref wN), (.ref b228), (.ref b228)])) rfl (by rw [hml]; rfl) (Steps.refl _) (a := b230) (argsL := [(.ref b226)]) (rest := [(.ref b230), (.ref wN), (.ref b228), (.ref b228)]) (lenOf pd_rm0_1 rfl) rfl (by show 2 * 0 + _ ≤ _; exact Nat.le_of_eq rfl) (hb hby at_71) (fun _ _ => ⟨rfl, e230, (by decide : 3 + 1 ≤ _), (by decide : 8 + 1 ≤ _)⟩)
      dsimp only [Pt.U, Pt.locs, Pt.cells, Pt.slots] at X233 l233 y233 z233 st233 hQ233
      subst l233 y233 z233
      obtain ⟨rfl, N233q, K233q, A233q, C233q, t233, k233, g2331, g2332, g2333, F233q, B233q⟩ := hQ233
      have N233 := Fr.app N227 N233q
      have K233 : Keep h0 T233.heap [] := (K230).trans K233q (allS (Or.inr sz_b230) all0)
      have f234 := ((Exa.ext E230 A228).keep K233q)
      have f235 := ((Fld.ext E230 F228_kind).keep K233q (ninS ne_b228_b230 nin0))
      have f236 := ((Fld.ext E230 F228_text).keep K233q (ninS ne_b228_b230 nin0))
      have f237 := ((Fld.ext E230 F228_start).keep K233q (ninS ne_b228_b230 nin0))
      obtain ⟨_, _, ⟨T238, L238, k238, n238⟩, -, X238, hS2_238, hg_238, ⟨Lc238, hQ238, l238, y238, z238⟩, st238⟩ := X233.specialBackS hx (y := (⟨"com/example/riscontro/riscontro/rules/Token", "<init>", "(Lcom/example/riscontro/riscontro/rules/Token$Kind;Ljava/lang/String;I)V"⟩ : MethodName)) rfl hown (mvT hZ (hw _ (List.mem_of_getElem? (i := 44) rfl))) (mvT hZ (hw _ (List.mem_of_getElem? (i := 45) rfl))) (mvT hZ (hw _ (List.mem_of_getElem? (i := 46) rfl))) (by decide) (backOfS (W := 1) (rmT l Z a0 hw [] b228 wN b230 (p4 &&& (2147483647 : Int32)) T233.heap n0 (Nat.le_trans Z0 K233.1) f234 f235 f236 f237 g_b228 (own_start p4)) hZ (hw _ (List.mem_of_getElem? (i := 46) rfl)) (hw _ (List.mem_of_getElem? (i := 14) rfl)) (by decide) (by decide)) (g := (mkF m 78 #[.val (.int p1), .val (.int p2), .val (.int p3), .val (.int p4), .val (.int (6 : Int32)), .val (.ref w_USER_REGION), .val (.int (1 : Int32)), .val (.ref wN), .val (.ref b226), .unset, .unset, .unset] [(.int (p4 &&& (2147483647 : Int32))), (.ref b230), (.ref wN), (.ref b228), (.ref b228)])) rfl (by rw [hml]; rfl) (Steps.refl _) (a := b228) (argsL := [(.ref wN), (.ref b230), (.int (p4 &&& (2147483647 : Int32)))]) (rest := [(.ref b228)]) (lenOf pd_rm0_2 rfl) rfl (by show 2 * 0 + _ ≤ _; exact Nat.le_of_eq rfl) (hb hby at_78) (fun _ _ => ⟨rfl, rfl, (by decide : 4 + 4 ≤ _), (by decide : 9 + 40 ≤ _)⟩)
      dsimp only [Pt.U, Pt.locs, Pt.cells, Pt.slots] at X238 l238 y238 z238 st238 hQ238
      subst l238 y238 z238
      obtain ⟨X238', hS238', hZ238', hown238'⟩ := rebS (s := s) (vm0 := s.vm) hS0 (show _ ≤ T233.heap.size by exact (Nat.le_trans (Nat.le_trans (Nat.le_trans (Nat.le_trans (Nat.le_trans (Nat.zero_le _) (E226).1) (Keep.of_wr W227).1) (E228).1) (E230).1) (K233q).1)) X238 hS2_238 hg_238 hZ hown
      obtain ⟨rfl, N238q, K238q, A238q, G238q⟩ := hQ238
      have N238 := Fr.app N233 N238q
      have K238 : Keep h0 T238.heap [] := (K233).trans K238q (allS (Or.inr sz_b228) all0)
      obtain ⟨cq239, kq239, q239a, q239b, q239c⟩ := isOf hZ238' rfl (Exa.ext (own_keep_ext K238) E_USER_REGION)
      obtain ⟨_, _, ⟨T239, L239, k239, n239⟩, -, X239, ⟨Lc239, hQ239, l239, y239, z239⟩, st239⟩ := X238'.virtualBack hx (y := (⟨"com/example/riscontro/riscontro/rules/Field", "takes", "(Lcom/example/riscontro/riscontro/rules/Token;)Z"⟩ : MethodName)) (z := (⟨"com/example/riscontro/riscontro/rules/Field", "takes", "(Lcom/example/riscontro/riscontro/rules/Token;)Z"⟩ : MethodName)) hown238' (mvT hZ238' (hw _ (List.mem_of_getElem? (i := 67) rfl))) (mvT hZ238' (hw _ (List.mem_of_getElem? (i := 68) rfl))) (notFace_of_selects (args := #[]) (mvT hZ238' (hw _ (List.mem_of_getElem? (i := 70) rfl)))) (mvT hZ238' (hw _ (List.mem_of_getElem? (i := 70) rfl))) (mvT hZ238' (hw _ (List.mem_of_getElem? (i := 69) rfl))) (by decide) (backOf (W := 0) (rmX l Z a0 hw [] w_USER_REGION b228 wS wN (0 : Int32) T238.heap n0 (Nat.le_trans Z0 K238.1) (Fld.ext (own_keep_ext K238) V_USER_REGION) G238q A238q (if_neg hNS)) hZ238' (hw _ (List.mem_of_getElem? (i := 71) rfl)) (hw _ (List.mem_of_getElem? (i := 6) rfl)) (by decide) (by decide)) q239a q239c (g := (mkF m 119 #[.val (.int p1), .val (.int p2), .val (.int p3), .val (.int p4), .val (.int (6 : Int32)), .val (.ref w_USER_REGION), .val (.int (1 : Int32)), .val (.ref wN), .val (.ref b226), .val (.ref b228), .val (.int (0 : Int32)), .val (.int (0 : Int32))] [(.ref b228), (.ref w_USER_REGION)])) rfl (by rw [hml]; rfl) (Steps.refl _) (argsL := [(.ref b228)]) (rest := []) (lenOf pd_rm0_3 rfl) rfl (by show 2 * 0 + _ ≤ _; exact Nat.le_of_eq rfl) (hb hby at_119) (fun _ _ => ⟨rfl, rfl, (by decide : 8 + 0 ≤ _), (by decide : 49 + 0 ≤ _)⟩)
      dsimp only [Pt.U, Pt.locs, Pt.cells, Pt.slots] at X239 l239 y239 z239 st239 hQ239
      subst l239 y239 z239
      obtain ⟨rfl, N239q, e239⟩ := hQ239
      have N239 := Fr.app N238 N239q
      obtain ⟨fs, hr, hrun, hended, hRW⟩ := Jvm.Stand.leaveW (s := s) (vm₁ := T238.vm) X239 hS238' (show _ ≤ T239.heap.size by rw [e239]; exact (Nat.le_refl T238.heap.size)) (v := some (.int (1 : Int32))) (fun h => by rw [Bd.returns] at h; cases h)
      refine ⟨_, _, pre208 _ ?_, hrun, hended, _, _, rfl, ?_, hRW.1, hRW.2.1, hRW.2.2.1, hRW.2.2.2.mono (by decide) (by decide)⟩
      · show Steps p.tables e below (T207.setTop (mkF m 19 #[.val (.int p1), .val (.int p2), .val (.int p3), .val (.int p4), .val (.int (6 : Int32)), .val (.ref w_USER_REGION), .unset, .unset, .unset, .unset, .unset, .unset] [(.int (p2 &&& (1 : Int32)))])) _
        refine XS.ifNo X207.here hx rfl (hb hby at_19) rfl ((if0 _ _).trans (feq hc209).1) ?_
        show Steps p.tables e below (T207.setTop (mkF m 22 #[.val (.int p1), .val (.int p2), .val (.int p3), .val (.int p4), .val (.int (6 : Int32)), .val (.ref w_USER_REGION), .unset, .unset, .unset, .unset, .unset, .unset] [])) _
        refine XS.iconst X207.here hx rfl (hb hby at_22) ?_
        show Steps p.tables e below (T207.setTop (mkF m 23 #[.val (.int p1), .val (.int p2), .val (.int p3), .val (.int p4), .val (.int (6 : Int32)), .val (.ref w_USER_REGION), .unset, .unset, .unset, .unset, .unset, .unset] [(.int (1 : Int32))])) _
        refine XS.goto X207.here hx rfl (pc0 := 23) (pc' := 27) rfl (hb hby at_23) (by decide) (by decide) ?_
        show Steps p.tables e below (T207.setTop (mkF m 27 #[.val (.int p1), .val (.int p2), .val (.int p3), .val (.int p4), .val (.int (6 : Int32)), .val (.ref w_USER_REGION), .unset, .unset, .unset, .unset, .unset, .unset] [(.int (1 : Int32))])) _
        refine XS.istore X207.here hx rfl (hb hby at_27) rfl (l' := #[.val (.int p1), .val (.int p2), .val (.int p3), .val (.int p4), .val (.int (6 : Int32)), .val (.ref w_USER_REGION), .val (.int (1 : Int32)), .unset, .unset, .unset, .unset, .unset]) rfl ?_
        show Steps p.tables e below (T207.setTop (mkF m 29 #[.val (.int p1), .val (.int p2), .val (.int p3), .val (.int p4), .val (.int (6 : Int32)), .val (.ref w_USER_REGION), .val (.int (1 : Int32)), .unset, .unset, .unset, .unset, .unset] [])) _
        refine XS.iload X207.here hx rfl (hb hby at_29) rfl ?_
        show Steps p.tables e below (T207.setTop (mkF m 31 #[.val (.int p1), .val (.int p2), .val (.int p3), .val (.int p4), .val (.int (6 : Int32)), .val (.ref w_USER_REGION), .val (.int (1 : Int32)), .unset, .unset, .unset, .unset, .unset] [(.int (1 : Int32))])) _
        refine XS.ifNo X207.here hx rfl (hb hby at_31) rfl ((if0 _ _).trans (feq (by decide : ¬ ((1 : Int32) = (0 : Int32)))).1) ?_
        show Steps p.tables e below (T207.setTop (mkF m 34 #[.val (.int p1), .val (.int p2), .val (.int p3), .val (.int p4), .val (.int (6 : Int32)), .val (.ref w_USER_REGION), .val (.int (1 : Int32)), .unset, .unset, .unset, .unset, .unset] [])) _
        refine st225 _ ?_
        show Steps p.tables e below (T225.setTop (mkF m 37 #[.val (.int p1), .val (.int p2), .val (.int p3), .val (.int p4), .val (.int (6 : Int32)), .val (.ref w_USER_REGION), .val (.int (1 : Int32)), .unset, .unset, .unset, .unset, .unset] [(.ref wN)])) _
        refine XS.goto X225.here hx rfl (pc0 := 37) (pc' := 43) rfl (hb hby at_37) (by decide) (by decide) ?_
        show Steps p.tables e below (T225.setTop (mkF m 43 #[.val (.int p1), .val (.int p2), .val (.int p3), .val (.int p4), .val (.int (6 : Int32)), .val (.ref w_USER_REGION), .val (.int (1 : Int32)), .unset, .unset, .unset, .unset, .unset] [(.ref wN)])) _
        refine XS.astore X225.here hx rfl (hb hby at_43) rfl rfl (l' := #[.val (.int p1), .val (.int p2), .val (.int p3), .val (.int p4), .val (.int (6 : Int32)), .val (.ref w_USER_REGION), .val (.int (1 : Int32)), .val (.ref wN), .unset, .unset, .unset, .unset]) rfl ?_
        show Steps p.tables e below (T225.setTop (mkF m 45 #[.val (.int p1), .val (.int p2), .val (.int p3), .val (.int p4), .val (.int (6 : Int32)), .val (.ref w_USER_REGION), .val (.int (1 : Int32)), .val (.ref wN), .unset, .unset, .unset, .unset] [])) _
        refine XS.iconst X225.here hx rfl (hb hby at_45) ?_
        show Steps p.tables e below (T225.setTop (mkF m 46 #[.val (.int p1), .val (.int p2), .val (.int p3), .val (.int p4), .val (.int (6 : Int32)), .val (.ref w_USER_REGION), .val (.int (1 : Int32)), .val (.ref wN), .unset, .unset, .unset, .unset] [(.int (1 : Int32))])) _
        refine st226 _ ?_
        show Steps p.tables e below (T226.setTop (mkF m 48 #[.val (.int p1), .val (.int p2), .val (.int p3), .val (.int p4), .val (.int (6 : Int32)), .val (.ref w_USER_REGION), .val (.int (1 : Int32)), .val (.ref wN), .unset, .unset, .unset, .unset] [(.ref b226)])) _
        refine XS.dup X226.here hx rfl (hb hby at_48) rfl rfl ?_
        show Steps p.tables e below (T226.setTop (mkF m 49 #[.val (.int p1), .val (.int p2), .val (.int p3), .val (.int p4), .val (.int (6 : Int32)), .val (.ref w_USER_REGION), .val (.int (1 : Int32)), .val (.ref wN), .unset, .unset, .unset, .unset] [(.ref b226), (.ref b226)])) _
        refine XS.iconst X226.here hx rfl (hb hby at_49) ?_
        show Steps p.tables e below (T226.setTop (mkF m 50 #[.val (.int p1), .val (.int p2), .val (.int p3), .val (.int p4), .val (.int (6 : Int32)), .val (.ref w_USER_REGION), .val (.int (1 : Int32)), .val (.ref wN), .unset, .unset, .unset, .unset] [(.int (0 : Int32)), (.ref b226), (.ref b226)])) _
        refine XS.iloadN X226.here hx rfl (hb hby at_50) rfl ?_
        show Steps p.tables e below (T226.setTop (mkF m 51 #[.val (.int p1), .val (.int p2), .val (.int p3), .val (.int p4), .val (.int (6 : Int32)), .val (.ref w_USER_REGION), .val (.int (1 : Int32)), .val (.ref wN), .unset, .unset, .unset, .unset] [(.int p3), (.int (0 : Int32)), (.ref b226), (.ref b226)])) _
        refine XS.sipush X226.here hx rfl (hb hby at_51) ?_
        show Steps p.tables e below (T226.setTop (mkF m 54 #[.val (.int p1), .val (.int p2), .val (.int p3), .val (.int p4), .val (.int (6 : Int32)), .val (.ref w_USER_REGION), .val (.int (1 : Int32)), .val (.ref wN), .unset, .unset, .unset, .unset] [(.int (255 : Int32)), (.int p3), (.int (0 : Int32)), (.ref b226), (.ref b226)])) _
        refine XS.iand X226.here hx rfl (hb hby at_54) rfl ?_
        show Steps p.tables e below (T226.setTop (mkF m 55 #[.val (.int p1), .val (.int p2), .val (.int p3), .val (.int p4), .val (.int (6 : Int32)), .val (.ref w_USER_REGION), .val (.int (1 : Int32)), .val (.ref wN), .unset, .unset, .unset, .unset] [(.int (p3 &&& (255 : Int32))), (.int (0 : Int32)), (.ref b226), (.ref b226)])) _
        refine XS.i2c X226.here hx rfl (hb hby at_55) rfl ?_
        show Steps p.tables e below (T226.setTop (mkF m 56 #[.val (.int p1), .val (.int p2), .val (.int p3), .val (.int p4), .val (.int (6 : Int32)), .val (.ref w_USER_REGION), .val (.int (1 : Int32)), .val (.ref wN), .unset, .unset, .unset, .unset] [(.int ((p3 &&& (255 : Int32)).toUInt32.toUInt16.toUInt32.toInt32)), (.int (0 : Int32)), (.ref b226), (.ref b226)])) _
        refine st227 _ ?_
        show Steps p.tables e below (T227.setTop (mkF m 57 #[.val (.int p1), .val (.int p2), .val (.int p3), .val (.int p4), .val (.int (6 : Int32)), .val (.ref w_USER_REGION), .val (.int (1 : Int32)), .val (.ref wN), .unset, .unset, .unset, .unset] [(.ref b226)])) _
        refine XS.astore X227.here hx rfl (hb hby at_57) rfl rfl (l' := #[.val (.int p1), .val (.int p2), .val (.int p3), .val (.int p4), .val (.int (6 : Int32)), .val (.ref w_USER_REGION), .val (.int (1 : Int32)), .val (.ref wN), .val (.ref b226), .unset, .unset, .unset]) rfl ?_
        show Steps p.tables e below (T227.setTop (mkF m 59 #[.val (.int p1), .val (.int p2), .val (.int p3), .val (.int p4), .val (.int (6 : Int32)), .val (.ref w_USER_REGION), .val (.int (1 : Int32)), .val (.ref wN), .val (.ref b226), .unset, .unset, .unset] [])) _
        refine st228 _ ?_
        show Steps p.tables e below (T228.setTop (mkF m 62 #[.val (.int p1), .val (.int p2), .val (.int p3), .val (.int p4), .val (.int (6 : Int32)), .val (.ref w_USER_REGION), .val (.int (1 : Int32)), .val (.ref wN), .val (.ref b226), .unset, .unset, .unset] [(.ref b228)])) _
        refine XS.dup X228.here hx rfl (hb hby at_62) rfl rfl ?_
        show Steps p.tables e below (T228.setTop (mkF m 63 #[.val (.int p1), .val (.int p2), .val (.int p3), .val (.int p4), .val (.int (6 : Int32)), .val (.ref w_USER_REGION), .val (.int (1 : Int32)), .val (.ref wN), .val (.ref b226), .unset, .unset, .unset] [(.ref b228), (.ref b228)])) _
        refine XS.aload X228.here hx rfl (hb hby at_63) rfl rfl ?_
        show Steps p.tables e below (T228.setTop (mkF m 65 #[.val (.int p1), .val (.int p2), .val (.int p3), .val (.int p4), .val (.int (6 : Int32)), .val (.ref w_USER_REGION), .val (.int (1 : Int32)), .val (.ref wN), .val (.ref b226), .unset, .unset, .unset] [(.ref wN), (.ref b228), (.ref b228)])) _
        refine st230 _ ?_
        show Steps p.tables e below (T230.setTop (mkF m 68 #[.val (.int p1), .val (.int p2), .val (.int p3), .val (.int p4), .val (.int (6 : Int32)), .val (.ref w_USER_REGION), .val (.int (1 : Int32)), .val (.ref wN), .val (.ref b226), .unset, .unset, .unset] [(.ref b230), (.ref wN), (.ref b228), (.ref b228)])) _
        refine XS.dup X230.here hx rfl (hb hby at_68) rfl rfl ?_
        show Steps p.tables e below (T230.setTop (mkF m 69 #[.val (.int p1), .val (.int p2), .val (.int p3), .val (.int p4), .val (.int (6 : Int32)), .val (.ref w_USER_REGION), .val (.int (1 : Int32)), .val (.ref wN), .val (.ref b226), .unset, .unset, .unset] [(.ref b230), (.ref b230), (.ref wN), (.ref b228), (.ref b228)])) _
        refine XS.aload X230.here hx rfl (hb hby at_69) rfl rfl ?_
        show Steps p.tables e below (T230.setTop (mkF m 71 #[.val (.int p1), .val (.int p2), .val (.int p3), .val (.int p4), .val (.int (6 : Int32)), .val (.ref w_USER_REGION), .val (.int (1 : Int32)), .val (.ref wN), .val (.ref b226), .unset, .unset, .unset] [(.ref b226), (.ref b230), (.ref b230), (.ref wN), (.ref b228), (.ref b228)])) _
        refine st233.trans ?_
        show Steps p.tables e below (T233.setTop (mkF m 74 #[.val (.int p1), .val (.int p2), .val (.int p3), .val (.int p4), .val (.int (6 : Int32)), .val (.ref w_USER_REGION), .val (.int (1 : Int32)), .val (.ref wN), .val (.ref b226), .unset, .unset, .unset] [(.ref b230), (.ref wN), (.ref b228), (.ref b228)])) _
        refine XS.iloadN X233.here hx rfl (hb hby at_74) rfl ?_
        show Steps p.tables e below (T233.setTop (mkF m 75 #[.val (.int p1), .val (.int p2), .val (.int p3), .val (.int p4), .val (.int (6 : Int32)), .val (.ref w_USER_REGION), .val (.int (1 : Int32)), .val (.ref wN), .val (.ref b226), .unset, .unset, .unset] [(.int p4), (.ref b230), (.ref wN), (.ref b228), (.ref b228)])) _
        refine X233.ldcInt hx hown (mvT hZ (hw _ (List.mem_of_getElem? (i := 0) rfl))) (g := (mkF m 75 #[.val (.int p1), .val (.int p2), .val (.int p3), .val (.int p4), .val (.int (6 : Int32)), .val (.ref w_USER_REGION), .val (.int (1 : Int32)), .val (.ref wN), .val (.ref b226), .unset, .unset, .unset] [(.int p4), (.ref b230), (.ref wN), (.ref b228), (.ref b228)])) rfl (hb hby at_75) _ ?_
        show Steps p.tables e below (T233.setTop (mkF m 77 #[.val (.int p1), .val (.int p2), .val (.int p3), .val (.int p4), .val (.int (6 : Int32)), .val (.ref w_USER_REGION), .val (.int (1 : Int32)), .val (.ref wN), .val (.ref b226), .unset, .unset, .unset] [(.int (2147483647 : Int32)), (.int p4), (.ref b230), (.ref wN), (.ref b228), (.ref b228)])) _
        refine XS.iand X233.here hx rfl (hb hby at_77) rfl ?_
        show Steps p.tables e below (T233.setTop (mkF m 78 #[.val (.int p1), .val (.int p2), .val (.int p3), .val (.int p4), .val (.int (6 : Int32)), .val (.ref w_USER_REGION), .val (.int (1 : Int32)), .val (.ref wN), .val (.ref b226), .unset, .unset, .unset] [(.int (p4 &&& (2147483647 : Int32))), (.ref b230), (.ref wN), (.ref b228), (.ref b228)])) _
        refine st238.trans ?_
        show Steps p.tables e below (T238.setTop (mkF m 81 #[.val (.int p1), .val (.int p2), .val (.int p3), .val (.int p4), .val (.int (6 : Int32)), .val (.ref w_USER_REGION), .val (.int (1 : Int32)), .val (.ref wN), .val (.ref b226), .unset, .unset, .unset] [(.ref b228)])) _
        refine XS.astore X238'.here hx rfl (hb hby at_81) rfl rfl (l' := #[.val (.int p1), .val (.int p2), .val (.int p3), .val (.int p4), .val (.int (6 : Int32)), .val (.ref w_USER_REGION), .val (.int (1 : Int32)), .val (.ref wN), .val (.ref b226), .val (.ref b228), .unset, .unset]) rfl ?_
        show Steps p.tables e below (T238.setTop (mkF m 83 #[.val (.int p1), .val (.int p2), .val (.int p3), .val (.int p4), .val (.int (6 : Int32)), .val (.ref w_USER_REGION), .val (.int (1 : Int32)), .val (.ref wN), .val (.ref b226), .val (.ref b228), .unset, .unset] [])) _
        refine XS.iload X238'.here hx rfl (hb hby at_83) rfl ?_
        show Steps p.tables e below (T238.setTop (mkF m 85 #[.val (.int p1), .val (.int p2), .val (.int p3), .val (.int p4), .val (.int (6 : Int32)), .val (.ref w_USER_REGION), .val (.int (1 : Int32)), .val (.ref wN), .val (.ref b226), .val (.ref b228), .unset, .unset] [(.int (6 : Int32))])) _
        refine XS.ifNo X238'.here hx rfl (hb hby at_85) rfl ((if0 _ _).trans (feq (by decide : ¬ ((6 : Int32) = (0 : Int32)))).1) ?_
        show Steps p.tables e below (T238.setTop (mkF m 88 #[.val (.int p1), .val (.int p2), .val (.int p3), .val (.int p4), .val (.int (6 : Int32)), .val (.ref w_USER_REGION), .val (.int (1 : Int32)), .val (.ref wN), .val (.ref b226), .val (.ref b228), .unset, .unset] [])) _
        refine XS.iload X238'.here hx rfl (hb hby at_88) rfl ?_
        show Steps p.tables e below (T238.setTop (mkF m 90 #[.val (.int p1), .val (.int p2), .val (.int p3), .val (.int p4), .val (.int (6 : Int32)), .val (.ref w_USER_REGION), .val (.int (1 : Int32)), .val (.ref wN), .val (.ref b226), .val (.ref b228), .unset, .unset] [(.int (6 : Int32))])) _
        refine XS.iconst X238'.here hx rfl (hb hby at_90) ?_
        show Steps p.tables e below (T238.setTop (mkF m 91 #[.val (.int p1), .val (.int p2), .val (.int p3), .val (.int p4), .val (.int (6 : Int32)), .val (.ref w_USER_REGION), .val (.int (1 : Int32)), .val (.ref wN), .val (.ref b226), .val (.ref b228), .unset, .unset] [(.int (5 : Int32)), (.int (6 : Int32))])) _
        refine XS.icmpYes X238'.here hx rfl (pc0 := 91) (pc' := 98) rfl (hb hby at_91) rfl (feq (by decide : ¬ ((6 : Int32) = (5 : Int32)))).2 (by decide) (by decide) ?_
        show Steps p.tables e below (T238.setTop (mkF m 98 #[.val (.int p1), .val (.int p2), .val (.int p3), .val (.int p4), .val (.int (6 : Int32)), .val (.ref w_USER_REGION), .val (.int (1 : Int32)), .val (.ref wN), .val (.ref b226), .val (.ref b228), .unset, .unset] [])) _
        refine XS.iconst X238'.here hx rfl (hb hby at_98) ?_
        show Steps p.tables e below (T238.setTop (mkF m 99 #[.val (.int p1), .val (.int p2), .val (.int p3), .val (.int p4), .val (.int (6 : Int32)), .val (.ref w_USER_REGION), .val (.int (1 : Int32)), .val (.ref wN), .val (.ref b226), .val (.ref b228), .unset, .unset] [(.int (0 : Int32))])) _
        refine XS.istore X238'.here hx rfl (hb hby at_99) rfl (l' := #[.val (.int p1), .val (.int p2), .val (.int p3), .val (.int p4), .val (.int (6 : Int32)), .val (.ref w_USER_REGION), .val (.int (1 : Int32)), .val (.ref wN), .val (.ref b226), .val (.ref b228), .val (.int (0 : Int32)), .unset]) rfl ?_
        show Steps p.tables e below (T238.setTop (mkF m 101 #[.val (.int p1), .val (.int p2), .val (.int p3), .val (.int p4), .val (.int (6 : Int32)), .val (.ref w_USER_REGION), .val (.int (1 : Int32)), .val (.ref wN), .val (.ref b226), .val (.ref b228), .val (.int (0 : Int32)), .unset] [])) _
        refine XS.iload X238'.here hx rfl (hb hby at_101) rfl ?_
        show Steps p.tables e below (T238.setTop (mkF m 103 #[.val (.int p1), .val (.int p2), .val (.int p3), .val (.int p4), .val (.int (6 : Int32)), .val (.ref w_USER_REGION), .val (.int (1 : Int32)), .val (.ref wN), .val (.ref b226), .val (.ref b228), .val (.int (0 : Int32)), .unset] [(.int (0 : Int32))])) _
        refine XS.iload X238'.here hx rfl (hb hby at_103) rfl ?_
        show Steps p.tables e below (T238.setTop (mkF m 105 #[.val (.int p1), .val (.int p2), .val (.int p3), .val (.int p4), .val (.int (6 : Int32)), .val (.ref w_USER_REGION), .val (.int (1 : Int32)), .val (.ref wN), .val (.ref b226), .val (.ref b228), .val (.int (0 : Int32)), .unset] [(.int (1 : Int32)), (.int (0 : Int32))])) _
        refine XS.icmpYes X238'.here hx rfl (pc0 := 105) (pc' := 112) rfl (hb hby at_105) rfl (feq (by decide : ¬ ((0 : Int32) = (1 : Int32)))).2 (by decide) (by decide) ?_
        show Steps p.tables e below (T238.setTop (mkF m 112 #[.val (.int p1), .val (.int p2), .val (.int p3), .val (.int p4), .val (.int (6 : Int32)), .val (.ref w_USER_REGION), .val (.int (1 : Int32)), .val (.ref wN), .val (.ref b226), .val (.ref b228), .val (.int (0 : Int32)), .unset] [])) _
        refine XS.iconst X238'.here hx rfl (hb hby at_112) ?_
        show Steps p.tables e below (T238.setTop (mkF m 113 #[.val (.int p1), .val (.int p2), .val (.int p3), .val (.int p4), .val (.int (6 : Int32)), .val (.ref w_USER_REGION), .val (.int (1 : Int32)), .val (.ref wN), .val (.ref b226), .val (.ref b228), .val (.int (0 : Int32)), .unset] [(.int (0 : Int32))])) _
        refine XS.istore X238'.here hx rfl (hb hby at_113) rfl (l' := #[.val (.int p1), .val (.int p2), .val (.int p3), .val (.int p4), .val (.int (6 : Int32)), .val (.ref w_USER_REGION), .val (.int (1 : Int32)), .val (.ref wN), .val (.ref b226), .val (.ref b228), .val (.int (0 : Int32)), .val (.int (0 : Int32))]) rfl ?_
        show Steps p.tables e below (T238.setTop (mkF m 115 #[.val (.int p1), .val (.int p2), .val (.int p3), .val (.int p4), .val (.int (6 : Int32)), .val (.ref w_USER_REGION), .val (.int (1 : Int32)), .val (.ref wN), .val (.ref b226), .val (.ref b228), .val (.int (0 : Int32)), .val (.int (0 : Int32))] [])) _
        refine XS.aload X238'.here hx rfl (hb hby at_115) rfl rfl ?_
        show Steps p.tables e below (T238.setTop (mkF m 117 #[.val (.int p1), .val (.int p2), .val (.int p3), .val (.int p4), .val (.int (6 : Int32)), .val (.ref w_USER_REGION), .val (.int (1 : Int32)), .val (.ref wN), .val (.ref b226), .val (.ref b228), .val (.int (0 : Int32)), .val (.int (0 : Int32))] [(.ref w_USER_REGION)])) _
        refine XS.aload X238'.here hx rfl (hb hby at_117) rfl rfl ?_
        show Steps p.tables e below (T238.setTop (mkF m 119 #[.val (.int p1), .val (.int p2), .val (.int p3), .val (.int p4), .val (.int (6 : Int32)), .val (.ref w_USER_REGION), .val (.int (1 : Int32)), .val (.ref wN), .val (.ref b226), .val (.ref b228), .val (.int (0 : Int32)), .val (.int (0 : Int32))] [(.ref b228), (.ref w_USER_REGION)])) _
        refine st239.trans ?_
        show Steps p.tables e below (T239.setTop (mkF m 122 #[.val (.int p1), .val (.int p2), .val (.int p3), .val (.int p4), .val (.int (6 : Int32)), .val (.ref w_USER_REGION), .val (.int (1 : Int32)), .val (.ref wN), .val (.ref b226), .val (.ref b228), .val (.int (0 : Int32)), .val (.int (0 : Int32))] [(.int (0 : Int32))])) _
        refine XS.iload X239.here hx rfl (hb hby at_122) rfl ?_
        show Steps p.tables e below (T239.setTop (mkF m 124 #[.val (.int p1), .val (.int p2), .val (.int p3), .val (.int p4), .val (.int (6 : Int32)), .val (.ref w_USER_REGION), .val (.int (1 : Int32)), .val (.ref wN), .val (.ref b226), .val (.ref b228), .val (.int (0 : Int32)), .val (.int (0 : Int32))] [(.int (0 : Int32)), (.int (0 : Int32))])) _
        refine XS.icmpNo X239.here hx rfl (hb hby at_124) rfl (teq (rfl : (0 : Int32) = (0 : Int32))).2 ?_
        show Steps p.tables e below (T239.setTop (mkF m 127 #[.val (.int p1), .val (.int p2), .val (.int p3), .val (.int p4), .val (.int (6 : Int32)), .val (.ref w_USER_REGION), .val (.int (1 : Int32)), .val (.ref wN), .val (.ref b226), .val (.ref b228), .val (.int (0 : Int32)), .val (.int (0 : Int32))] [])) _
        refine XS.iconst X239.here hx rfl (hb hby at_127) ?_
        show Steps p.tables e below (T239.setTop (mkF m 128 #[.val (.int p1), .val (.int p2), .val (.int p3), .val (.int p4), .val (.int (6 : Int32)), .val (.ref w_USER_REGION), .val (.int (1 : Int32)), .val (.ref wN), .val (.ref b226), .val (.ref b228), .val (.int (0 : Int32)), .val (.int (0 : Int32))] [(.int (1 : Int32))])) _
        refine XS.goto X239.here hx rfl (pc0 := 128) (pc' := 132) rfl (hb hby at_128) (by decide) (by decide) ?_
        show Steps p.tables e below (T239.setTop (mkF m 132 #[.val (.int p1), .val (.int p2), .val (.int p3), .val (.int p4), .val (.int (6 : Int32)), .val (.ref w_USER_REGION), .val (.int (1 : Int32)), .val (.ref wN), .val (.ref b226), .val (.ref b228), .val (.int (0 : Int32)), .val (.int (0 : Int32))] [(.int (1 : Int32))])) _
        exact retN X239 hx (t := .boolean) Bd.returns (by simp) (hb hby at_132) hr
      · show Q_rm0 Z p1 p2 p3 p4 w_AMOUNT w_CURRENCY w_MERCHANT_ID w_IP_ADDRESS w_DEVICE_ID w_USER_AGE w_USER_REGION wN wS zc h0 n0 _ T239.heap _
        rw [e239]
        exact ⟨rfl, N239⟩
set_option maxRecDepth 65536 in
set_option maxHeartbeats 40000000 in
theorem comes_1 {Post : Tables → Env → Array Value → State → Outcome → State → Prop} (hpost : ∀ tb e args s v u, (limb_1_1.after args s (.returned v) u = true ∧ limb_1_2.after args s (.returned v) u = true ∧ True) → FramedW s (.returned v) u (Jvm.fieldLocs frame_1_writes args s ++ Jvm.arrayLocs frame_1_arrays args s ++ Jvm.staticLocs frame_1_statics s) 24 2176 → Post tb e args s (.returned v) u) :
    ArmFor flags0 classFile x code maxLocals ret World_1 tables_1 room_1 Calls_1 rest_1 Pre_1 Post := by
  intro l hfl _ _ p e ha hc hk s m args below hf hA hF happ hP
  obtain ⟨hcalls, hrest, hpre⟩ := hP
  obtain ⟨-, -, -, hnamed, -, -, -, hat⟩ := (Spec.applies_iff hf).mp happ
  obtain ⟨hg, hn⟩ := and_e (Cond.before_iff.mp (show (Jvm.Cond.and given_1 narrow_1).before args s = true from hpre))
  obtain ⟨hcount, hgs⟩ := and_e hg
  obtain ⟨hg0, hgr0⟩ := and_e hgs
  obtain ⟨hg1, hgr1⟩ := and_e hgr0
  obtain ⟨hg2, hgr2⟩ := and_e hgr1
  obtain ⟨w0, w1, w2, w3, rfl⟩ : ∃ w0 w1 w2 w3 : Value, args = #[w0, w1, w2, w3] := by
    have hs : args.size = 4 := by simpa [Cond.value, given_1] using hcount
    obtain ⟨L⟩ := args
    match L, hs with
    | [w0, w1, w2, w3], _ => exact ⟨w0, w1, w2, w3, rfl⟩
  have hw := fun d (hd : d ∈ tables_1) => atoms_spec (ws := Jvm.Cond.code x code maxLocals ret :: tables_1) hat d (List.mem_cons_of_mem _ hd)
  have hfit : Fit s := fun {y c} hc i hi => by
    obtain ⟨ha, rfl⟩ := Array.getElem?_eq_some_iff.mp hc
    have q := List.all_eq_true.mp ((Array.all_eq_true_iff_forall_mem.mp hF) _ (Array.getElem_mem ha)) i (List.mem_range.mpr hi)
    simpa [Array.getElem?_eq_getElem hi] using q
  obtain ⟨hsets, hown0⟩ := atoms_of _ (rest_1_c_eq ▸ (show rest_1_c.before _ s = true from hrest))
  have hr0 := Cond.before_iff.mp hown0
  obtain ⟨i0, ei0⟩ := is_v hg0
  obtain rfl : w0 = (.int i0) := Option.some.inj ei0
  obtain ⟨i1, ei1⟩ := is_v hg1
  obtain rfl : w1 = (.int i1) := Option.some.inj ei1
  obtain ⟨i2, ei2⟩ := is_v hg2
  obtain rfl : w2 = (.int i2) := Option.some.inj ei2
  obtain ⟨i3, ei3⟩ := is_v hgr2
  obtain rfl : w3 = (.int i3) := Option.some.inj ei3
  obtain ⟨c0, hr_0⟩ := and_e hn
  obtain ⟨c1, hr_1⟩ := and_e hr_0
  obtain ⟨c2, hr_2⟩ := and_e hr_1
  obtain ⟨c3, hr_3⟩ := and_e hr_2
  obtain ⟨c4, hr_4⟩ := and_e hr_3
  obtain ⟨c5, hr_5⟩ := and_e hr_4
  obtain ⟨c6, hr_6⟩ := and_e hr_5
  obtain ⟨c7, hr_7⟩ := and_e hr_6
  obtain ⟨c8, hr_8⟩ := and_e hr_7
  obtain ⟨c9, hr_9⟩ := and_e hr_8
  obtain ⟨c10, hr_10⟩ := and_e hr_9
  obtain ⟨c11, hr_11⟩ := and_e hr_10
  obtain ⟨c12, hr_12⟩ := and_e hr_11
  obtain ⟨c13, hr_13⟩ := and_e hr_12
  obtain ⟨c14, hr_14⟩ := and_e hr_13
  obtain ⟨c15, hr_15⟩ := and_e hr_14
  obtain ⟨c16, hr_16⟩ := and_e hr_15
  have c17 := hr_16
  obtain ⟨w_AMOUNT, ev_AMOUNT⟩ := exa_v c0
  have S_AMOUNT : Sta s s.heap "com/example/riscontro/riscontro/rules/Field" "AMOUNT" "Lcom/example/riscontro/riscontro/rules/Field;" (.ref w_AMOUNT) := Sta.start ev_AMOUNT (Or.inr ⟨(hw _ (List.mem_of_getElem? (i := 6) rfl)), (hw _ (List.mem_of_getElem? (i := 7) rfl))⟩)
  have E_AMOUNT := Exa.start ev_AMOUNT c0
  obtain ⟨w_CURRENCY, ev_CURRENCY⟩ := exa_v c10
  have S_CURRENCY : Sta s s.heap "com/example/riscontro/riscontro/rules/Field" "CURRENCY" "Lcom/example/riscontro/riscontro/rules/Field;" (.ref w_CURRENCY) := Sta.start ev_CURRENCY (Or.inr ⟨(hw _ (List.mem_of_getElem? (i := 6) rfl)), (hw _ (List.mem_of_getElem? (i := 86) rfl))⟩)
  have E_CURRENCY := Exa.start ev_CURRENCY c10
  obtain ⟨w_MERCHANT_ID, ev_MERCHANT_ID⟩ := exa_v c5
  have S_MERCHANT_ID : Sta s s.heap "com/example/riscontro/riscontro/rules/Field" "MERCHANT_ID" "Lcom/example/riscontro/riscontro/rules/Field;" (.ref w_MERCHANT_ID) := Sta.start ev_MERCHANT_ID (Or.inr ⟨(hw _ (List.mem_of_getElem? (i := 6) rfl)), (hw _ (List.mem_of_getElem? (i := 82) rfl))⟩)
  have E_MERCHANT_ID := Exa.start ev_MERCHANT_ID c5
  obtain ⟨w_IP_ADDRESS, ev_IP_ADDRESS⟩ := exa_v c12
  have S_IP_ADDRESS : Sta s s.heap "com/example/riscontro/riscontro/rules/Field" "IP_ADDRESS" "Lcom/example/riscontro/riscontro/rules/Field;" (.ref w_IP_ADDRESS) := Sta.start ev_IP_ADDRESS (Or.inr ⟨(hw _ (List.mem_of_getElem? (i := 6) rfl)), (hw _ (List.mem_of_getElem? (i := 88) rfl))⟩)
  have E_IP_ADDRESS := Exa.start ev_IP_ADDRESS c12
  obtain ⟨w_DEVICE_ID, ev_DEVICE_ID⟩ := exa_v c14
  have S_DEVICE_ID : Sta s s.heap "com/example/riscontro/riscontro/rules/Field" "DEVICE_ID" "Lcom/example/riscontro/riscontro/rules/Field;" (.ref w_DEVICE_ID) := Sta.start ev_DEVICE_ID (Or.inr ⟨(hw _ (List.mem_of_getElem? (i := 6) rfl)), (hw _ (List.mem_of_getElem? (i := 90) rfl))⟩)
  have E_DEVICE_ID := Exa.start ev_DEVICE_ID c14
  obtain ⟨w_USER_AGE, ev_USER_AGE⟩ := exa_v c3
  have S_USER_AGE : Sta s s.heap "com/example/riscontro/riscontro/rules/Field" "USER_AGE" "Lcom/example/riscontro/riscontro/rules/Field;" (.ref w_USER_AGE) := Sta.start ev_USER_AGE (Or.inr ⟨(hw _ (List.mem_of_getElem? (i := 6) rfl)), (hw _ (List.mem_of_getElem? (i := 80) rfl))⟩)
  have E_USER_AGE := Exa.start ev_USER_AGE c3
  obtain ⟨w_USER_REGION, ev_USER_REGION⟩ := exa_v c16
  have S_USER_REGION : Sta s s.heap "com/example/riscontro/riscontro/rules/Field" "USER_REGION" "Lcom/example/riscontro/riscontro/rules/Field;" (.ref w_USER_REGION) := Sta.start ev_USER_REGION (Or.inr ⟨(hw _ (List.mem_of_getElem? (i := 6) rfl)), (hw _ (List.mem_of_getElem? (i := 92) rfl))⟩)
  have E_USER_REGION := Exa.start ev_USER_REGION c16
  obtain ⟨wN, ev_NUMBER⟩ := exa_v c1
  have S_NUMBER : Sta s s.heap "com/example/riscontro/riscontro/rules/Token$Kind" "NUMBER" "Lcom/example/riscontro/riscontro/rules/Token$Kind;" (.ref wN) := Sta.start ev_NUMBER (Or.inr ⟨(hw _ (List.mem_of_getElem? (i := 9) rfl)), (hw _ (List.mem_of_getElem? (i := 10) rfl))⟩)
  have E_NUMBER := Exa.start ev_NUMBER c1
  obtain ⟨wS, ev_STRING⟩ := exa_v c6
  have S_STRING : Sta s s.heap "com/example/riscontro/riscontro/rules/Token$Kind" "STRING" "Lcom/example/riscontro/riscontro/rules/Token$Kind;" (.ref wS) := Sta.start ev_STRING (Or.inr ⟨(hw _ (List.mem_of_getElem? (i := 9) rfl)), (hw _ (List.mem_of_getElem? (i := 83) rfl))⟩)
  have E_STRING := Exa.start ev_STRING c6
  have V_AMOUNT := own_fldref ev_AMOUNT ev_NUMBER c2
  have V_CURRENCY := own_fldref ev_CURRENCY ev_STRING c11
  have V_MERCHANT_ID := own_fldref ev_MERCHANT_ID ev_STRING c7
  have V_IP_ADDRESS := own_fldref ev_IP_ADDRESS ev_STRING c13
  have V_DEVICE_ID := own_fldref ev_DEVICE_ID ev_STRING c15
  have V_USER_AGE := own_fldref ev_USER_AGE ev_NUMBER c4
  have V_USER_REGION := own_fldref ev_USER_REGION ev_STRING c17
  have O_NUMBER := own_fld ev_NUMBER c8
  have O_STRING := own_fld ev_STRING c9
  have hNS := own_ne O_NUMBER O_STRING (by decide)
  have hSN := own_ne O_STRING O_NUMBER (by decide)
  obtain ⟨zc, evc⟩ := is_v (Cond.before_iff.mp (hsets _ (List.mem_of_getElem? (i := 1) rfl)))
  have S_C : Sta s s.heap "java/lang/String" "COMPACT_STRINGS" "Z" (.int zc) := Sta.start evc (Or.inl (hsets _ (List.mem_of_getElem? (i := 0) rfl)))
  have hzc : ¬ zc = 0 := gotF (Cond.eq_ints evc (Term.int_eval 0)) (not_v (Cond.before_iff.mp (hsets _ (List.mem_of_getElem? (i := 2) rfl))))
  obtain ⟨n, o, h1, h2, h3, _, L, rfl, ⟨rfl, N⟩, hq⟩ := rm0 l s _ hw tables_1 i0 i1 i2 i3 w_AMOUNT w_CURRENCY w_MERCHANT_ID w_IP_ADDRESS w_DEVICE_ID w_USER_AGE w_USER_REGION wN wS zc s.heap s.heap.size (Nat.le_refl _) S_AMOUNT S_CURRENCY S_MERCHANT_ID S_IP_ADDRESS S_DEVICE_ID S_USER_AGE S_USER_REGION S_NUMBER S_STRING E_AMOUNT E_CURRENCY E_MERCHANT_ID E_IP_ADDRESS E_DEVICE_ID E_USER_AGE E_USER_REGION V_AMOUNT V_CURRENCY V_MERCHANT_ID V_IP_ADDRESS V_DEVICE_ID V_USER_AGE V_USER_REGION hNS hSN S_C hzc p e ha hc hk s m _ below hf ((Spec.applies_iff_loose hf).mp happ).1 ⟨rfl, State.Warmed39.refl s, rfl⟩ trivial
  refine ⟨n, _, h1, h2, h3, hpost _ _ _ _ _ _ ⟨Cond.after_iff.mpr rfl, Cond.after_iff.mpr (eq_i res_at (Term.int_eval (1)) rfl), trivial⟩ ⟨hq.1, hq.2.1, hq.2.2.1, (hq.2.2.2.sift fun y hy => Or.inr (N y hy)).mono (by decide) (by decide)⟩⟩
theorem main_1_1 : Claimed_1_1 := comes_1 fun _ _ _ _ _ _ h hF => ⟨h.1, hF⟩
theorem main_1_2 : Claimed_1_2 := comes_1 fun _ _ _ _ _ _ h hF => ⟨h.2.1, hF⟩
end Jvm.Pilot.@@N@@
namespace Jvm.Pilot.@@N@@
open Jvm Jvm.ClassFile Sem Op Lib Jvm.Free Jvm.Stand Jvm.Pilot.@@N@@.Jvm.D
/-! MADE BY PROGRAM (witnessworld.py) out of the Statement's table words and the real class files: 25 classes; the members and pool entries that the words name. The judged class is class 1, her method 1. -/
namespace start1
open Jvm.ClassFile
def u (s : String) : CpInfo := .utf8 (stringToUtf16 s)
/-- a pool by its gaps: so many unusable entries, then the entry; so many at the end -/
def gap : Nat → List CpInfo → List CpInfo
  | 0, r => r
  | n + 1, r => .unusable :: gap n r
def poolList (es : List (Nat × CpInfo)) (last : Nat) : List CpInfo := es.foldr (fun e r => gap e.1 (e.2 :: r)) (gap last [])
def pool (es : List (Nat × CpInfo)) (last : Nat) : Array CpInfo := ⟨poolList es last⟩
def fileOf (pool : Array CpInfo) (this : Nat) (attrs : Array Attribute := #[]) (ms : Array MethodInfo := #[]) (fl : Nat := 33) (sup : Nat := 0) (ifs : Array Nat := #[]) (fds : Array FieldInfo := #[]) : ClassFile where
  minorVersion := 0
  majorVersion := 65
  constantPool := pool
  accessFlags := fl
  thisClass := this
  superClass := sup
  interfaces := ifs
  fields := fds
  methods := ms
  attributes := attrs
def plain (name : String) (sup : Option ClassId) : Class where
  name := name
  kind := .ordinary
  loader := none
  accessFlags := 33
  super := sup
  interfaces := #[]
  cf := none
  fields := #[]
  methods := #[]
  instanceTypes := #[]
  staticTypes := #[]
  resolved := #[]
  callSites := []
  init := .initialized
  statics := none
  mirror := none

def pool0 : Array CpInfo := pool [(5, u "<init>"), (0, u "()V"), (1, .class_ 10), (1, u "java/lang/Object")] 113

def k0c0 : Code := { maxStack := 0, maxLocals := 1, code := object_method_1_code, exceptionTable := #[], attributes := #[] }
def k0m0 : Method := { name := "<init>", desc := "()V", sig := { parameters := [], returnType := none }, accessFlags := 1, code := some k0c0 }
/-- java/lang/Object -/
def k0 : Class := { plain "java/lang/Object" none with
  accessFlags := 33
  interfaces := #[]
  cf := some (fileOf pool0 8 #[] #[{ accessFlags := 1, nameIndex := 5, descriptorIndex := 6, attributes := #[] }] 33 0 #[] #[])
  fields := #[]
  methods := #[k0m0]
  instanceTypes := #[]
  staticTypes := #[]
  resolved := Array.replicate 124 none
  statics := none }

def pool1 : Array CpInfo := pool [(2, .class_ 4), (1, u "java/lang/Object"), (0, u "<init>"), (0, u "()V"), (0, .integer 2147483647), (0, .methodref 9 10), (0, .class_ 11), (0, .nameAndType 12 13), (0, u "com/example/riscontro/riscontro/rules/FieldTakesPinLaw"), (0, u "pick"), (0, u "(I)Lcom/example/riscontro/riscontro/rules/Field;"), (0, .fieldref 15 16), (0, .class_ 17), (0, .nameAndType 18 19), (0, u "com/example/riscontro/riscontro/rules/Token$Kind"), (0, u "NUMBER"), (0, u "Lcom/example/riscontro/riscontro/rules/Token$Kind;"), (0, .fieldref 15 21), (0, .nameAndType 22 19), (0, u "STRING"), (0, .class_ 24), (0, u "com/example/riscontro/riscontro/rules/Token"), (0, .class_ 26), (0, u "java/lang/String"), (0, .methodref 25 28), (0, .nameAndType 5 29), (0, u "([C)V"), (0, .methodref 23 31), (0, .nameAndType 5 32), (0, u "(Lcom/example/riscontro/riscontro/rules/Token$Kind;Ljava/lang/String;I)V"), (0, .methodref 34 35), (0, .class_ 36), (0, .nameAndType 37 38), (0, u "com/example/riscontro/riscontro/rules/Field"), (0, u "takes"), (0, u "(Lcom/example/riscontro/riscontro/rules/Token;)Z"), (0, .fieldref 34 40), (0, .nameAndType 41 42), (0, u "AMOUNT"), (0, u "Lcom/example/riscontro/riscontro/rules/Field;"), (0, .fieldref 34 44), (0, .nameAndType 45 42), (0, u "CURRENCY"), (0, .fieldref 34 47), (0, .nameAndType 48 42), (0, u "MERCHANT_ID"), (0, .fieldref 34 50), (0, .nameAndType 51 42), (0, u "IP_ADDRESS"), (0, .fieldref 34 53), (0, .nameAndType 54 42), (0, u "DEVICE_ID"), (0, .fieldref 34 56), (0, .nameAndType 57 42), (0, u "USER_AGE"), (0, .fieldref 34 59), (0, .nameAndType 60 42), (0, u "USER_REGION"), (2, u "law"), (0, u "(IIII)Z")] 7

def k1m0 : Method := { name := "<init>", desc := "()V", sig := { parameters := [], returnType := none }, accessFlags := 1, code := none }
def k1c1 : Code := { maxStack := 6, maxLocals := 12, code := code, exceptionTable := #[], attributes := #[] }
def k1m1 : Method := { name := "law", desc := "(IIII)Z", sig := { parameters := [.int, .int, .int, .int], returnType := some .boolean }, accessFlags := 9, code := some k1c1 }
def k1c2 : Code := { maxStack := 2, maxLocals := 1, code := method_3_code, exceptionTable := #[], attributes := #[] }
def k1m2 : Method := { name := "pick", desc := "(I)Lcom/example/riscontro/riscontro/rules/Field;", sig := { parameters := [.int], returnType := some (.object "com/example/riscontro/riscontro/rules/Field") }, accessFlags := 10, code := some k1c2 }
/-- com/example/riscontro/riscontro/rules/FieldTakesPinLaw -/
def k1 : Class := { plain "com/example/riscontro/riscontro/rules/FieldTakesPinLaw" (some 0) with
  accessFlags := 49
  interfaces := #[]
  cf := some (fileOf pool1 9 #[] #[{ accessFlags := 1, nameIndex := 5, descriptorIndex := 6, attributes := #[] }, { accessFlags := 9, nameIndex := 63, descriptorIndex := 64, attributes := #[] }, { accessFlags := 10, nameIndex := 12, descriptorIndex := 13, attributes := #[] }] 49 2 #[] #[])
  fields := #[]
  methods := #[k1m0, k1m1, k1m2]
  instanceTypes := #[]
  staticTypes := #[]
  resolved := Array.replicate 72 none
  statics := none }

def pool2 : Array CpInfo := pool [(1, .class_ 2), (0, u "java/lang/constant/Constable"), (0, .class_ 4), (0, u "java/lang/Object")] 6

/-- java/lang/constant/Constable -/
def k2 : Class := { plain "java/lang/constant/Constable" (some 0) with
  accessFlags := 1537
  interfaces := #[]
  cf := some (fileOf pool2 1 #[] #[] 1537 3 #[] #[])
  fields := #[]
  methods := #[]
  instanceTypes := #[]
  staticTypes := #[]
  resolved := Array.replicate 11 none
  statics := none }

def pool3 : Array CpInfo := pool [(1, .class_ 2), (0, u "java/lang/Comparable"), (0, .class_ 4), (0, u "java/lang/Object")] 7

/-- java/lang/Comparable -/
def k3 : Class := { plain "java/lang/Comparable" (some 0) with
  accessFlags := 1537
  interfaces := #[]
  cf := some (fileOf pool3 1 #[] #[] 1537 3 #[] #[])
  fields := #[]
  methods := #[]
  instanceTypes := #[]
  staticTypes := #[]
  resolved := Array.replicate 12 none
  statics := none }

def pool4 : Array CpInfo := pool [(1, .class_ 2), (0, u "java/io/Serializable"), (0, .class_ 4), (0, u "java/lang/Object")] 2

/-- java/io/Serializable -/
def k4 : Class := { plain "java/io/Serializable" (some 0) with
  accessFlags := 1537
  interfaces := #[]
  cf := some (fileOf pool4 1 #[] #[] 1537 3 #[] #[])
  fields := #[]
  methods := #[]
  instanceTypes := #[]
  staticTypes := #[]
  resolved := Array.replicate 7 none
  statics := none }

def pool5 : Array CpInfo := pool [(2, .class_ 4), (1, u "java/lang/Enum"), (0, u "name"), (0, u "Ljava/lang/String;"), (2, u "ordinal"), (0, u "I"), (1, .class_ 14), (1, u "java/lang/Object"), (4, u "hash"), (86, .class_ 108), (1, u "java/lang/Enum$EnumDesc"), (2, .class_ 112), (0, u "java/lang/constant/Constable"), (0, .class_ 114), (0, u "java/lang/Comparable"), (0, .class_ 116), (0, u "java/io/Serializable")] 87

/-- java/lang/Enum -/
def k5 : Class := { plain "java/lang/Enum" (some 0) with
  accessFlags := 1057
  interfaces := #[2, 3, 4]
  cf := some (fileOf pool5 2 #[.nestMembers #[106]] #[] 1057 12 #[111, 113, 115] #[{ accessFlags := 18, nameIndex := 5, descriptorIndex := 6, attributes := #[] }, { accessFlags := 18, nameIndex := 9, descriptorIndex := 10, attributes := #[] }, { accessFlags := 2, nameIndex := 19, descriptorIndex := 10, attributes := #[] }])
  fields := #[{ name := "name", type := (.object "java/lang/String"), accessFlags := 18, slot := 0, constantValue := 0 }, { name := "ordinal", type := .int, accessFlags := 18, slot := 1, constantValue := 0 }, { name := "hash", type := .int, accessFlags := 2, slot := 2, constantValue := 0 }]
  methods := #[]
  instanceTypes := #[(.object "java/lang/String"), .int, .int]
  staticTypes := #[]
  resolved := Array.replicate 204 none
  statics := none }

def pool6 : Array CpInfo := pool [(1, .class_ 2), (0, u "com/example/riscontro/riscontro/rules/Field"), (2, u "AMOUNT"), (0, u "Lcom/example/riscontro/riscontro/rules/Field;"), (2, u "CURRENCY"), (2, u "MERCHANT_ID"), (2, u "IP_ADDRESS"), (2, u "DEVICE_ID"), (2, u "USER_AGE"), (2, u "USER_REGION"), (2, u "$VALUES"), (0, u "[Lcom/example/riscontro/riscontro/rules/Field;"), (6, .class_ 37), (1, u "java/lang/Enum"), (8, u "fieldName"), (0, u "Ljava/lang/String;"), (0, .fieldref 1 49), (0, .nameAndType 50 51), (0, u "valueKind"), (0, u "Lcom/example/riscontro/riscontro/rules/Token$Kind;"), (2, u "reader"), (0, u "Ljava/util/function/Function;"), (2, u "BY_NAME"), (0, u "Ljava/util/Map;"), (17, .methodref 78 79), (0, .class_ 80), (0, .nameAndType 81 82), (0, u "com/example/riscontro/riscontro/rules/Token"), (0, u "kind"), (0, u "()Lcom/example/riscontro/riscontro/rules/Token$Kind;"), (122, u "takes"), (0, u "(Lcom/example/riscontro/riscontro/rules/Token;)Z")] 72

def k6c0 : Code := { maxStack := 2, maxLocals := 2, code := prog_18_method_7_code, exceptionTable := #[], attributes := #[] }
def k6m0 : Method := { name := "takes", desc := "(Lcom/example/riscontro/riscontro/rules/Token;)Z", sig := { parameters := [(.object "com/example/riscontro/riscontro/rules/Token")], returnType := some .boolean }, accessFlags := 0, code := some k6c0 }
/-- com/example/riscontro/riscontro/rules/Field -/
def k6 : Class := { plain "com/example/riscontro/riscontro/rules/Field" (some 5) with
  accessFlags := 16432
  interfaces := #[]
  cf := some (fileOf pool6 1 #[] #[{ accessFlags := 0, nameIndex := 205, descriptorIndex := 206, attributes := #[] }] 16432 35 #[] #[{ accessFlags := 16409, nameIndex := 5, descriptorIndex := 6, attributes := #[] }, { accessFlags := 16409, nameIndex := 9, descriptorIndex := 6, attributes := #[] }, { accessFlags := 16409, nameIndex := 12, descriptorIndex := 6, attributes := #[] }, { accessFlags := 16409, nameIndex := 15, descriptorIndex := 6, attributes := #[] }, { accessFlags := 16409, nameIndex := 18, descriptorIndex := 6, attributes := #[] }, { accessFlags := 16409, nameIndex := 21, descriptorIndex := 6, attributes := #[] }, { accessFlags := 16409, nameIndex := 24, descriptorIndex := 6, attributes := #[] }, { accessFlags := 26, nameIndex := 58, descriptorIndex := 59, attributes := #[] }, { accessFlags := 18, nameIndex := 46, descriptorIndex := 47, attributes := #[] }, { accessFlags := 18, nameIndex := 50, descriptorIndex := 51, attributes := #[] }, { accessFlags := 18, nameIndex := 54, descriptorIndex := 55, attributes := #[] }, { accessFlags := 4122, nameIndex := 27, descriptorIndex := 28, attributes := #[] }])
  fields := #[{ name := "AMOUNT", type := (.object "com/example/riscontro/riscontro/rules/Field"), accessFlags := 16409, slot := 0, constantValue := 0 }, { name := "CURRENCY", type := (.object "com/example/riscontro/riscontro/rules/Field"), accessFlags := 16409, slot := 1, constantValue := 0 }, { name := "MERCHANT_ID", type := (.object "com/example/riscontro/riscontro/rules/Field"), accessFlags := 16409, slot := 2, constantValue := 0 }, { name := "IP_ADDRESS", type := (.object "com/example/riscontro/riscontro/rules/Field"), accessFlags := 16409, slot := 3, constantValue := 0 }, { name := "DEVICE_ID", type := (.object "com/example/riscontro/riscontro/rules/Field"), accessFlags := 16409, slot := 4, constantValue := 0 }, { name := "USER_AGE", type := (.object "com/example/riscontro/riscontro/rules/Field"), accessFlags := 16409, slot := 5, constantValue := 0 }, { name := "USER_REGION", type := (.object "com/example/riscontro/riscontro/rules/Field"), accessFlags := 16409, slot := 6, constantValue := 0 }, { name := "BY_NAME", type := (.object "java/util/Map"), accessFlags := 26, slot := 7, constantValue := 0 }, { name := "fieldName", type := (.object "java/lang/String"), accessFlags := 18, slot := 3, constantValue := 0 }, { name := "valueKind", type := (.object "com/example/riscontro/riscontro/rules/Token$Kind"), accessFlags := 18, slot := 4, constantValue := 0 }, { name := "reader", type := (.object "java/util/function/Function"), accessFlags := 18, slot := 5, constantValue := 0 }, { name := "$VALUES", type := (.array (.object "com/example/riscontro/riscontro/rules/Field")), accessFlags := 4122, slot := 8, constantValue := 0 }]
  methods := #[k6m0]
  instanceTypes := #[(.object "java/lang/String"), .int, .int, (.object "java/lang/String"), (.object "com/example/riscontro/riscontro/rules/Token$Kind"), (.object "java/util/function/Function")]
  staticTypes := #[(.object "com/example/riscontro/riscontro/rules/Field"), (.object "com/example/riscontro/riscontro/rules/Field"), (.object "com/example/riscontro/riscontro/rules/Field"), (.object "com/example/riscontro/riscontro/rules/Field"), (.object "com/example/riscontro/riscontro/rules/Field"), (.object "com/example/riscontro/riscontro/rules/Field"), (.object "com/example/riscontro/riscontro/rules/Field"), (.object "java/util/Map"), (.array (.object "com/example/riscontro/riscontro/rules/Field"))]
  resolved := Array.replicate 279 none
  statics := some 0 }

def pool7 : Array CpInfo := pool [(1, .class_ 2), (0, u "com/example/riscontro/riscontro/rules/Token$Kind"), (2, u "NAME"), (0, u "Lcom/example/riscontro/riscontro/rules/Token$Kind;"), (2, u "NUMBER"), (2, u "STRING"), (2, u "AND"), (2, u "OR"), (2, u "NOT"), (2, u "LEFT_PAREN"), (2, u "RIGHT_PAREN"), (2, u "GREATER"), (2, u "GREATER_OR_EQUAL"), (2, u "LESS"), (2, u "LESS_OR_EQUAL"), (2, u "EQUAL"), (2, u "NOT_EQUAL"), (2, u "INVALID"), (2, u "END"), (2, u "$VALUES"), (0, u "[Lcom/example/riscontro/riscontro/rules/Token$Kind;"), (6, .class_ 64), (1, u "java/lang/Enum"), (39, .class_ 105), (0, u "com/example/riscontro/riscontro/rules/Token")] 2

/-- com/example/riscontro/riscontro/rules/Token$Kind -/
def k7 : Class := { plain "com/example/riscontro/riscontro/rules/Token$Kind" (some 5) with
  accessFlags := 16432
  interfaces := #[]
  cf := some (fileOf pool7 1 #[.nestHost 104] #[] 16432 62 #[] #[{ accessFlags := 16409, nameIndex := 5, descriptorIndex := 6, attributes := #[] }, { accessFlags := 16409, nameIndex := 9, descriptorIndex := 6, attributes := #[] }, { accessFlags := 16409, nameIndex := 12, descriptorIndex := 6, attributes := #[] }, { accessFlags := 16409, nameIndex := 15, descriptorIndex := 6, attributes := #[] }, { accessFlags := 16409, nameIndex := 18, descriptorIndex := 6, attributes := #[] }, { accessFlags := 16409, nameIndex := 21, descriptorIndex := 6, attributes := #[] }, { accessFlags := 16409, nameIndex := 24, descriptorIndex := 6, attributes := #[] }, { accessFlags := 16409, nameIndex := 27, descriptorIndex := 6, attributes := #[] }, { accessFlags := 16409, nameIndex := 30, descriptorIndex := 6, attributes := #[] }, { accessFlags := 16409, nameIndex := 33, descriptorIndex := 6, attributes := #[] }, { accessFlags := 16409, nameIndex := 36, descriptorIndex := 6, attributes := #[] }, { accessFlags := 16409, nameIndex := 39, descriptorIndex := 6, attributes := #[] }, { accessFlags := 16409, nameIndex := 42, descriptorIndex := 6, attributes := #[] }, { accessFlags := 16409, nameIndex := 45, descriptorIndex := 6, attributes := #[] }, { accessFlags := 16409, nameIndex := 48, descriptorIndex := 6, attributes := #[] }, { accessFlags := 16409, nameIndex := 51, descriptorIndex := 6, attributes := #[] }, { accessFlags := 4122, nameIndex := 54, descriptorIndex := 55, attributes := #[] }])
  fields := #[{ name := "NAME", type := (.object "com/example/riscontro/riscontro/rules/Token$Kind"), accessFlags := 16409, slot := 0, constantValue := 0 }, { name := "NUMBER", type := (.object "com/example/riscontro/riscontro/rules/Token$Kind"), accessFlags := 16409, slot := 1, constantValue := 0 }, { name := "STRING", type := (.object "com/example/riscontro/riscontro/rules/Token$Kind"), accessFlags := 16409, slot := 2, constantValue := 0 }, { name := "AND", type := (.object "com/example/riscontro/riscontro/rules/Token$Kind"), accessFlags := 16409, slot := 3, constantValue := 0 }, { name := "OR", type := (.object "com/example/riscontro/riscontro/rules/Token$Kind"), accessFlags := 16409, slot := 4, constantValue := 0 }, { name := "NOT", type := (.object "com/example/riscontro/riscontro/rules/Token$Kind"), accessFlags := 16409, slot := 5, constantValue := 0 }, { name := "LEFT_PAREN", type := (.object "com/example/riscontro/riscontro/rules/Token$Kind"), accessFlags := 16409, slot := 6, constantValue := 0 }, { name := "RIGHT_PAREN", type := (.object "com/example/riscontro/riscontro/rules/Token$Kind"), accessFlags := 16409, slot := 7, constantValue := 0 }, { name := "GREATER", type := (.object "com/example/riscontro/riscontro/rules/Token$Kind"), accessFlags := 16409, slot := 8, constantValue := 0 }, { name := "GREATER_OR_EQUAL", type := (.object "com/example/riscontro/riscontro/rules/Token$Kind"), accessFlags := 16409, slot := 9, constantValue := 0 }, { name := "LESS", type := (.object "com/example/riscontro/riscontro/rules/Token$Kind"), accessFlags := 16409, slot := 10, constantValue := 0 }, { name := "LESS_OR_EQUAL", type := (.object "com/example/riscontro/riscontro/rules/Token$Kind"), accessFlags := 16409, slot := 11, constantValue := 0 }, { name := "EQUAL", type := (.object "com/example/riscontro/riscontro/rules/Token$Kind"), accessFlags := 16409, slot := 12, constantValue := 0 }, { name := "NOT_EQUAL", type := (.object "com/example/riscontro/riscontro/rules/Token$Kind"), accessFlags := 16409, slot := 13, constantValue := 0 }, { name := "INVALID", type := (.object "com/example/riscontro/riscontro/rules/Token$Kind"), accessFlags := 16409, slot := 14, constantValue := 0 }, { name := "END", type := (.object "com/example/riscontro/riscontro/rules/Token$Kind"), accessFlags := 16409, slot := 15, constantValue := 0 }, { name := "$VALUES", type := (.array (.object "com/example/riscontro/riscontro/rules/Token$Kind")), accessFlags := 4122, slot := 16, constantValue := 0 }]
  methods := #[]
  instanceTypes := #[(.object "java/lang/String"), .int, .int]
  staticTypes := #[(.object "com/example/riscontro/riscontro/rules/Token$Kind"), (.object "com/example/riscontro/riscontro/rules/Token$Kind"), (.object "com/example/riscontro/riscontro/rules/Token$Kind"), (.object "com/example/riscontro/riscontro/rules/Token$Kind"), (.object "com/example/riscontro/riscontro/rules/Token$Kind"), (.object "com/example/riscontro/riscontro/rules/Token$Kind"), (.object "com/example/riscontro/riscontro/rules/Token$Kind"), (.object "com/example/riscontro/riscontro/rules/Token$Kind"), (.object "com/example/riscontro/riscontro/rules/Token$Kind"), (.object "com/example/riscontro/riscontro/rules/Token$Kind"), (.object "com/example/riscontro/riscontro/rules/Token$Kind"), (.object "com/example/riscontro/riscontro/rules/Token$Kind"), (.object "com/example/riscontro/riscontro/rules/Token$Kind"), (.object "com/example/riscontro/riscontro/rules/Token$Kind"), (.object "com/example/riscontro/riscontro/rules/Token$Kind"), (.object "com/example/riscontro/riscontro/rules/Token$Kind"), (.array (.object "com/example/riscontro/riscontro/rules/Token$Kind"))]
  resolved := Array.replicate 108 none
  statics := some 1 }

def pool8 : Array CpInfo := pool [(1, .methodref 2 3), (0, .class_ 4), (0, .nameAndType 5 6), (0, u "java/lang/Object"), (0, u "<init>"), (0, u "()V"), (0, .class_ 8), (0, u "java/lang/Record")] 13

def k8c0 : Code := { maxStack := 1, maxLocals := 1, code := jdk_30_method_1_code, exceptionTable := #[], attributes := #[] }
def k8m0 : Method := { name := "<init>", desc := "()V", sig := { parameters := [], returnType := none }, accessFlags := 4, code := some k8c0 }
/-- java/lang/Record -/
def k8 : Class := { plain "java/lang/Record" (some 0) with
  accessFlags := 1057
  interfaces := #[]
  cf := some (fileOf pool8 7 #[] #[{ accessFlags := 4, nameIndex := 5, descriptorIndex := 6, attributes := #[] }] 1057 2 #[] #[])
  fields := #[]
  methods := #[k8m0]
  instanceTypes := #[]
  staticTypes := #[]
  resolved := Array.replicate 22 none
  statics := none }

def pool9 : Array CpInfo := pool [(1, .methodref 2 3), (0, .class_ 4), (0, .nameAndType 5 6), (0, u "java/lang/Record"), (0, u "<init>"), (0, u "()V"), (0, .string 8), (0, u "kind"), (0, .methodref 10 11), (0, .class_ 12), (0, .nameAndType 13 14), (0, u "java/util/Objects"), (0, u "requireNonNull"), (0, u "(Ljava/lang/Object;Ljava/lang/String;)Ljava/lang/Object;"), (0, .string 16), (0, u "text"), (9, .fieldref 27 28), (0, .class_ 29), (0, .nameAndType 8 30), (0, u "com/example/riscontro/riscontro/rules/Token"), (0, u "Lcom/example/riscontro/riscontro/rules/Token$Kind;"), (0, .fieldref 27 32), (0, .nameAndType 16 33), (0, u "Ljava/lang/String;"), (0, .fieldref 27 35), (0, .nameAndType 36 37), (0, u "start"), (0, u "I"), (18, u "(Lcom/example/riscontro/riscontro/rules/Token$Kind;Ljava/lang/String;I)V"), (3, .class_ 61), (0, u "com/example/riscontro/riscontro/rules/Token$Kind"), (4, u "()Lcom/example/riscontro/riscontro/rules/Token$Kind;")] 32

def k9c0 : Code := { maxStack := 3, maxLocals := 4, code := prog_31_method_1_code, exceptionTable := #[], attributes := #[] }
def k9m0 : Method := { name := "<init>", desc := "(Lcom/example/riscontro/riscontro/rules/Token$Kind;Ljava/lang/String;I)V", sig := { parameters := [(.object "com/example/riscontro/riscontro/rules/Token$Kind"), (.object "java/lang/String"), .int], returnType := none }, accessFlags := 0, code := some k9c0 }
def k9c1 : Code := { maxStack := 1, maxLocals := 1, code := prog_31_method_6_code, exceptionTable := #[], attributes := #[] }
def k9m1 : Method := { name := "kind", desc := "()Lcom/example/riscontro/riscontro/rules/Token$Kind;", sig := { parameters := [], returnType := some (.object "com/example/riscontro/riscontro/rules/Token$Kind") }, accessFlags := 1, code := some k9c1 }
/-- com/example/riscontro/riscontro/rules/Token -/
def k9 : Class := { plain "com/example/riscontro/riscontro/rules/Token" (some 8) with
  accessFlags := 48
  interfaces := #[]
  cf := some (fileOf pool9 27 #[.nestMembers #[60]] #[{ accessFlags := 0, nameIndex := 5, descriptorIndex := 56, attributes := #[] }, { accessFlags := 1, nameIndex := 8, descriptorIndex := 66, attributes := #[] }] 48 2 #[] #[{ accessFlags := 18, nameIndex := 8, descriptorIndex := 30, attributes := #[] }, { accessFlags := 18, nameIndex := 16, descriptorIndex := 33, attributes := #[] }, { accessFlags := 18, nameIndex := 36, descriptorIndex := 37, attributes := #[] }])
  fields := #[{ name := "kind", type := (.object "com/example/riscontro/riscontro/rules/Token$Kind"), accessFlags := 18, slot := 0, constantValue := 0 }, { name := "text", type := (.object "java/lang/String"), accessFlags := 18, slot := 1, constantValue := 0 }, { name := "start", type := .int, accessFlags := 18, slot := 2, constantValue := 0 }]
  methods := #[k9m0, k9m1]
  instanceTypes := #[(.object "com/example/riscontro/riscontro/rules/Token$Kind"), (.object "java/lang/String"), .int]
  staticTypes := #[]
  resolved := Array.replicate 99 none
  statics := none }

def pool10 : Array CpInfo := pool [(2, .class_ 4), (1, u "java/lang/CharSequence"), (42, .class_ 48), (0, u "java/lang/CharSequence$1CodePointIterator"), (10, .class_ 60), (0, u "java/lang/CharSequence$1CharIterator"), (5, .class_ 67), (0, u "java/lang/Object")] 63

/-- java/lang/CharSequence -/
def k10 : Class := { plain "java/lang/CharSequence" (some 0) with
  accessFlags := 1537
  interfaces := #[]
  cf := some (fileOf pool10 2 #[.nestMembers #[47, 59]] #[] 1537 66 #[] #[])
  fields := #[]
  methods := #[]
  instanceTypes := #[]
  staticTypes := #[]
  resolved := Array.replicate 131 none
  statics := none }

def pool11 : Array CpInfo := pool [(1, .class_ 2), (0, u "java/lang/constant/ConstantDesc"), (0, .class_ 4), (0, u "java/lang/Object")] 32

/-- java/lang/constant/ConstantDesc -/
def k11 : Class := { plain "java/lang/constant/ConstantDesc" (some 0) with
  accessFlags := 1537
  interfaces := #[]
  cf := some (fileOf pool11 1 #[] #[] 1537 3 #[] #[])
  fields := #[]
  methods := #[]
  instanceTypes := #[]
  staticTypes := #[]
  resolved := Array.replicate 37 none
  statics := none }

def pool12 : Array CpInfo := pool [(1, .methodref 2 3), (0, .class_ 4), (0, .nameAndType 5 6), (0, u "java/lang/Object"), (0, u "<init>"), (0, u "()V"), (2, .fieldref 10 11), (0, .class_ 12), (0, .nameAndType 13 14), (0, u "java/lang/String"), (0, u "value"), (0, u "[B"), (0, .fieldref 10 16), (0, .nameAndType 17 18), (0, u "coder"), (0, u "B"), (2, u "hash"), (0, u "I"), (2, u "hashIsZero"), (0, u "Z"), (0, .methodref 10 28), (0, .nameAndType 5 29), (0, u "([CIILjava/lang/Void;)V"), (8, .fieldref 10 39), (0, .nameAndType 40 26), (0, u "COMPACT_STRINGS"), (1, .class_ 44), (1, u "java/lang/StringUTF16"), (0, u "compress"), (1, .methodref 42 48), (0, .nameAndType 49 50), (0, u "coderFromArrayLen"), (0, u "([BI)B"), (126, .methodref 42 178), (0, .nameAndType 45 179), (0, u "([CII)[B"), (395, .class_ 576), (0, u "java/lang/CharSequence"), (22, u "CASE_INSENSITIVE_ORDER"), (0, u "Ljava/util/Comparator;"), (409, u "([C)V"), (90, u "serialPersistentFields"), (0, u "[Ljava/io/ObjectStreamField;"), (0, .class_ 1104), (0, u "java/lang/String$CaseInsensitiveComparator"), (1, .class_ 1107), (0, u "java/io/Serializable"), (0, .class_ 1109), (0, u "java/lang/Comparable"), (0, .class_ 1111), (0, u "java/lang/constant/Constable"), (0, .class_ 1113), (0, u "java/lang/constant/ConstantDesc"), (2, u "serialVersionUID"), (0, u "J"), (3, u "REPL"), (0, u "C"), (2, u "LATIN1"), (1, u "UTF16")] 323

def k12m0 : Method := { name := "<init>", desc := "()V", sig := { parameters := [], returnType := none }, accessFlags := 1, code := none }
def k12c1 : Code := { maxStack := 5, maxLocals := 2, code := jdk_42_method_3_code, exceptionTable := #[], attributes := #[] }
def k12m1 : Method := { name := "<init>", desc := "([C)V", sig := { parameters := [(.array .char)], returnType := none }, accessFlags := 1, code := some k12c1 }
def k12c2 : Code := { maxStack := 4, maxLocals := 6, code := jdk_42_method_149_code, exceptionTable := #[], attributes := #[] }
def k12m2 : Method := { name := "<init>", desc := "([CIILjava/lang/Void;)V", sig := { parameters := [(.array .char), .int, .int, (.object "java/lang/Void")], returnType := none }, accessFlags := 2, code := some k12c2 }
/-- java/lang/String -/
def k12 : Class := { plain "java/lang/String" (some 0) with
  accessFlags := 49
  interfaces := #[4, 3, 10, 2, 11]
  cf := some (fileOf pool12 10 #[.nestMembers #[1103]] #[{ accessFlags := 1, nameIndex := 5, descriptorIndex := 6, attributes := #[] }, { accessFlags := 1, nameIndex := 5, descriptorIndex := 1010, attributes := #[] }, { accessFlags := 2, nameIndex := 5, descriptorIndex := 29, attributes := #[] }] 49 2 #[1106, 1108, 575, 1110, 1112] #[{ accessFlags := 18, nameIndex := 13, descriptorIndex := 14, attributes := #[] }, { accessFlags := 18, nameIndex := 17, descriptorIndex := 18, attributes := #[] }, { accessFlags := 2, nameIndex := 21, descriptorIndex := 22, attributes := #[] }, { accessFlags := 2, nameIndex := 25, descriptorIndex := 26, attributes := #[] }, { accessFlags := 26, nameIndex := 1116, descriptorIndex := 1117, attributes := #[] }, { accessFlags := 24, nameIndex := 40, descriptorIndex := 26, attributes := #[] }, { accessFlags := 26, nameIndex := 1101, descriptorIndex := 1102, attributes := #[] }, { accessFlags := 26, nameIndex := 1121, descriptorIndex := 1122, attributes := #[] }, { accessFlags := 25, nameIndex := 599, descriptorIndex := 600, attributes := #[] }, { accessFlags := 24, nameIndex := 1125, descriptorIndex := 18, attributes := #[] }, { accessFlags := 24, nameIndex := 1127, descriptorIndex := 18, attributes := #[] }])
  fields := #[{ name := "value", type := (.array .byte), accessFlags := 18, slot := 0, constantValue := 0 }, { name := "coder", type := .byte, accessFlags := 18, slot := 1, constantValue := 0 }, { name := "hash", type := .int, accessFlags := 2, slot := 2, constantValue := 0 }, { name := "hashIsZero", type := .boolean, accessFlags := 2, slot := 3, constantValue := 0 }, { name := "serialVersionUID", type := .long, accessFlags := 26, slot := 0, constantValue := 0 }, { name := "COMPACT_STRINGS", type := .boolean, accessFlags := 24, slot := 1, constantValue := 0 }, { name := "serialPersistentFields", type := (.array (.object "java/io/ObjectStreamField")), accessFlags := 26, slot := 2, constantValue := 0 }, { name := "REPL", type := .char, accessFlags := 26, slot := 3, constantValue := 0 }, { name := "CASE_INSENSITIVE_ORDER", type := (.object "java/util/Comparator"), accessFlags := 25, slot := 4, constantValue := 0 }, { name := "LATIN1", type := .byte, accessFlags := 24, slot := 5, constantValue := 0 }, { name := "UTF16", type := .byte, accessFlags := 24, slot := 6, constantValue := 0 }]
  methods := #[k12m0, k12m1, k12m2]
  instanceTypes := #[(.array .byte), .byte, .int, .boolean]
  staticTypes := #[.long, .boolean, (.array (.object "java/io/ObjectStreamField")), .char, (.object "java/util/Comparator"), .byte, .byte]
  resolved := Array.replicate 1451 none
  statics := some 2 }

def pool13 : Array CpInfo := pool [(6, .class_ 8), (1, u "java/lang/Object"), (0, u "<init>"), (0, u "()V"), (1, .class_ 14), (1, u "java/lang/StringUTF16"), (31, u "$assertionsDisabled"), (0, u "Z"), (13, u "HI_BYTE_SHIFT"), (0, u "I"), (2, u "LO_BYTE_SHIFT"), (49, .methodref 12 116), (0, .nameAndType 117 118), (0, u "compress"), (0, u "([CI[BII)I"), (3, u "([CII)[B"), (138, u "coderFromArrayLen"), (0, u "([BI)B"), (106, .class_ 371), (1, u "java/lang/StringUTF16$LinesSpliterator"), (58, u "MAX_LENGTH"), (196, .class_ 628), (0, u "java/lang/StringUTF16$CodePointsSpliterator"), (0, .class_ 630), (0, u "java/lang/StringUTF16$CharsSpliterator")] 4

def k13m0 : Method := { name := "<init>", desc := "()V", sig := { parameters := [], returnType := none }, accessFlags := 0, code := none }
def k13c1 : Code := { maxStack := 2, maxLocals := 2, code := jdk_52_method_15_code, exceptionTable := #[], attributes := #[] }
def k13m1 : Method := { name := "coderFromArrayLen", desc := "([BI)B", sig := { parameters := [(.array .byte), .int], returnType := some .byte }, accessFlags := 8, code := some k13c1 }
def k13c2 : Code := { maxStack := 5, maxLocals := 6, code := jdk_52_method_16_code, exceptionTable := #[], attributes := #[] }
def k13m2 : Method := { name := "compress", desc := "([CII)[B", sig := { parameters := [(.array .char), .int, .int], returnType := some (.array .byte) }, accessFlags := 9, code := some k13c2 }
def k13c3 : Code := { maxStack := 3, maxLocals := 7, code := jdk_52_method_21_code, exceptionTable := #[], attributes := #[] }
def k13m3 : Method := { name := "compress", desc := "([CI[BII)I", sig := { parameters := [(.array .char), .int, (.array .byte), .int, .int], returnType := some .int }, accessFlags := 9, code := some k13c3 }
/-- java/lang/StringUTF16 -/
def k13 : Class := { plain "java/lang/StringUTF16" (some 0) with
  accessFlags := 48
  interfaces := #[]
  cf := some (fileOf pool13 12 #[.nestMembers #[627, 629, 369]] #[{ accessFlags := 0, nameIndex := 9, descriptorIndex := 10, attributes := #[] }, { accessFlags := 8, nameIndex := 261, descriptorIndex := 262, attributes := #[] }, { accessFlags := 9, nameIndex := 117, descriptorIndex := 122, attributes := #[] }, { accessFlags := 9, nameIndex := 117, descriptorIndex := 118, attributes := #[] }] 48 6 #[] #[{ accessFlags := 26, nameIndex := 61, descriptorIndex := 62, attributes := #[] }, { accessFlags := 26, nameIndex := 65, descriptorIndex := 62, attributes := #[] }, { accessFlags := 24, nameIndex := 430, descriptorIndex := 62, attributes := #[] }, { accessFlags := 4120, nameIndex := 46, descriptorIndex := 47, attributes := #[] }])
  fields := #[{ name := "HI_BYTE_SHIFT", type := .int, accessFlags := 26, slot := 0, constantValue := 0 }, { name := "LO_BYTE_SHIFT", type := .int, accessFlags := 26, slot := 1, constantValue := 0 }, { name := "MAX_LENGTH", type := .int, accessFlags := 24, slot := 2, constantValue := 0 }, { name := "$assertionsDisabled", type := .boolean, accessFlags := 4120, slot := 3, constantValue := 0 }]
  methods := #[k13m0, k13m1, k13m2, k13m3]
  instanceTypes := #[]
  staticTypes := #[.int, .int, .int, .boolean]
  resolved := Array.replicate 635 none
  statics := none }

def pool14 : Array CpInfo := pool [(2, .class_ 4), (1, u "java/lang/Object"), (0, u "<init>"), (0, u "()V"), (35, .class_ 44), (1, u "java/util/Objects"), (0, u "requireNonNull"), (48, u "(Ljava/lang/Object;Ljava/lang/String;)Ljava/lang/Object;")] 89

def k14m0 : Method := { name := "<init>", desc := "()V", sig := { parameters := [], returnType := none }, accessFlags := 2, code := none }
def k14c1 : Code := { maxStack := 3, maxLocals := 2, code := jdk_31_method_11_code, exceptionTable := #[], attributes := #[] }
def k14m1 : Method := { name := "requireNonNull", desc := "(Ljava/lang/Object;Ljava/lang/String;)Ljava/lang/Object;", sig := { parameters := [(.object "java/lang/Object"), (.object "java/lang/String")], returnType := some (.object "java/lang/Object") }, accessFlags := 9, code := some k14c1 }
/-- java/util/Objects -/
def k14 : Class := { plain "java/util/Objects" (some 0) with
  accessFlags := 49
  interfaces := #[]
  cf := some (fileOf pool14 42 #[] #[{ accessFlags := 2, nameIndex := 5, descriptorIndex := 6, attributes := #[] }, { accessFlags := 9, nameIndex := 45, descriptorIndex := 94, attributes := #[] }] 49 2 #[] #[])
  fields := #[]
  methods := #[k14m0, k14m1]
  instanceTypes := #[]
  staticTypes := #[]
  resolved := Array.replicate 184 none
  statics := none }

def pool15 : Array CpInfo := pool [(4, .class_ 6), (1, u "java/lang/Object"), (0, u "<init>"), (0, u "()V"), (5, .class_ 16), (1, u "java/lang/StringLatin1"), (104, u "$assertionsDisabled"), (0, u "Z"), (98, .class_ 223), (1, u "java/lang/StringLatin1$LinesSpliterator"), (166, .class_ 391), (0, u "java/lang/StringLatin1$CharsSpliterator")] 3

def k15m0 : Method := { name := "<init>", desc := "()V", sig := { parameters := [], returnType := none }, accessFlags := 0, code := none }
/-- java/lang/StringLatin1 -/
def k15 : Class := { plain "java/lang/StringLatin1" (some 0) with
  accessFlags := 48
  interfaces := #[]
  cf := some (fileOf pool15 14 #[.nestMembers #[390, 221]] #[{ accessFlags := 0, nameIndex := 7, descriptorIndex := 8, attributes := #[] }] 48 4 #[] #[{ accessFlags := 4120, nameIndex := 121, descriptorIndex := 122, attributes := #[] }])
  fields := #[{ name := "$assertionsDisabled", type := .boolean, accessFlags := 4120, slot := 0, constantValue := 0 }]
  methods := #[k15m0]
  instanceTypes := #[]
  staticTypes := #[.boolean]
  resolved := Array.replicate 395 none
  statics := none }

def pool16 : Array CpInfo := pool [(2, .class_ 4), (1, u "java/lang/Object"), (0, u "<init>"), (0, u "()V"), (17, .class_ 26), (1, u "jdk/internal/util/Preconditions"), (28, .class_ 56), (0, u "jdk/internal/util/Preconditions$4"), (57, .class_ 115), (0, u "jdk/internal/util/Preconditions$1"), (7, u "SIOOBE_FORMATTER"), (0, u "Ljava/util/function/BiFunction;"), (0, .class_ 126), (0, u "jdk/internal/util/Preconditions$2"), (3, u "AIOOBE_FORMATTER"), (0, .class_ 132), (0, u "jdk/internal/util/Preconditions$3"), (3, u "IOOBE_FORMATTER")] 57

def k16m0 : Method := { name := "<init>", desc := "()V", sig := { parameters := [], returnType := none }, accessFlags := 1, code := none }
/-- jdk/internal/util/Preconditions -/
def k16 : Class := { plain "jdk/internal/util/Preconditions" (some 0) with
  accessFlags := 33
  interfaces := #[]
  cf := some (fileOf pool16 24 #[.nestMembers #[55, 131, 125, 114]] #[{ accessFlags := 1, nameIndex := 5, descriptorIndex := 6, attributes := #[] }] 33 2 #[] #[{ accessFlags := 25, nameIndex := 123, descriptorIndex := 124, attributes := #[] }, { accessFlags := 25, nameIndex := 130, descriptorIndex := 124, attributes := #[] }, { accessFlags := 25, nameIndex := 136, descriptorIndex := 124, attributes := #[] }])
  fields := #[{ name := "SIOOBE_FORMATTER", type := (.object "java/util/function/BiFunction"), accessFlags := 25, slot := 0, constantValue := 0 }, { name := "AIOOBE_FORMATTER", type := (.object "java/util/function/BiFunction"), accessFlags := 25, slot := 1, constantValue := 0 }, { name := "IOOBE_FORMATTER", type := (.object "java/util/function/BiFunction"), accessFlags := 25, slot := 2, constantValue := 0 }]
  methods := #[k16m0]
  instanceTypes := #[]
  staticTypes := #[(.object "java/util/function/BiFunction"), (.object "java/util/function/BiFunction"), (.object "java/util/function/BiFunction")]
  resolved := Array.replicate 194 none
  statics := some 3 }

def pool17 : Array CpInfo := pool [(9, u "<init>"), (6, .class_ 18), (1, u "java/lang/Object"), (0, u "()V"), (1, .class_ 23), (1, u "jdk/internal/util/ArraysSupport"), (0, u "LOG2_ARRAY_LONG_INDEX_SCALE"), (0, u "I"), (2, u "U"), (0, u "Ljdk/internal/misc/Unsafe;"), (8, u "BIG_ENDIAN"), (0, u "Z"), (8, u "LOG2_BYTE_BIT_SIZE"), (4, u "LOG2_ARRAY_INT_INDEX_SCALE"), (54, u "JLA"), (0, u "Ljdk/internal/access/JavaLangAccess;"), (11, u "LOG2_ARRAY_BOOLEAN_INDEX_SCALE"), (9, u "LOG2_ARRAY_BYTE_INDEX_SCALE"), (5, u "LOG2_ARRAY_CHAR_INDEX_SCALE"), (5, u "LOG2_ARRAY_SHORT_INDEX_SCALE"), (18, u "LOG2_ARRAY_FLOAT_INDEX_SCALE"), (24, u "LOG2_ARRAY_DOUBLE_INDEX_SCALE"), (89, u "T_BOOLEAN"), (2, u "T_CHAR"), (1, u "T_FLOAT"), (1, u "T_DOUBLE"), (1, u "T_BYTE"), (1, u "T_SHORT"), (1, u "T_INT"), (1, u "T_LONG"), (1, u "SOFT_MAX_ARRAY_LENGTH")] 83

def k17m0 : Method := { name := "<init>", desc := "()V", sig := { parameters := [], returnType := none }, accessFlags := 2, code := none }
/-- jdk/internal/util/ArraysSupport -/
def k17 : Class := { plain "jdk/internal/util/ArraysSupport" (some 0) with
  accessFlags := 33
  interfaces := #[]
  cf := some (fileOf pool17 21 #[] #[{ accessFlags := 2, nameIndex := 9, descriptorIndex := 19, attributes := #[] }] 33 16 #[] #[{ accessFlags := 24, nameIndex := 28, descriptorIndex := 29, attributes := #[] }, { accessFlags := 26, nameIndex := 38, descriptorIndex := 39, attributes := #[] }, { accessFlags := 25, nameIndex := 121, descriptorIndex := 25, attributes := #[] }, { accessFlags := 25, nameIndex := 131, descriptorIndex := 25, attributes := #[] }, { accessFlags := 25, nameIndex := 137, descriptorIndex := 25, attributes := #[] }, { accessFlags := 25, nameIndex := 143, descriptorIndex := 25, attributes := #[] }, { accessFlags := 25, nameIndex := 53, descriptorIndex := 25, attributes := #[] }, { accessFlags := 25, nameIndex := 24, descriptorIndex := 25, attributes := #[] }, { accessFlags := 25, nameIndex := 162, descriptorIndex := 25, attributes := #[] }, { accessFlags := 25, nameIndex := 187, descriptorIndex := 25, attributes := #[] }, { accessFlags := 26, nameIndex := 48, descriptorIndex := 25, attributes := #[] }, { accessFlags := 25, nameIndex := 277, descriptorIndex := 25, attributes := #[] }, { accessFlags := 25, nameIndex := 280, descriptorIndex := 25, attributes := #[] }, { accessFlags := 25, nameIndex := 282, descriptorIndex := 25, attributes := #[] }, { accessFlags := 25, nameIndex := 284, descriptorIndex := 25, attributes := #[] }, { accessFlags := 25, nameIndex := 286, descriptorIndex := 25, attributes := #[] }, { accessFlags := 25, nameIndex := 288, descriptorIndex := 25, attributes := #[] }, { accessFlags := 25, nameIndex := 290, descriptorIndex := 25, attributes := #[] }, { accessFlags := 25, nameIndex := 292, descriptorIndex := 25, attributes := #[] }, { accessFlags := 26, nameIndex := 108, descriptorIndex := 109, attributes := #[] }, { accessFlags := 25, nameIndex := 294, descriptorIndex := 25, attributes := #[] }])
  fields := #[{ name := "U", type := (.object "jdk/internal/misc/Unsafe"), accessFlags := 24, slot := 0, constantValue := 0 }, { name := "BIG_ENDIAN", type := .boolean, accessFlags := 26, slot := 1, constantValue := 0 }, { name := "LOG2_ARRAY_BOOLEAN_INDEX_SCALE", type := .int, accessFlags := 25, slot := 2, constantValue := 0 }, { name := "LOG2_ARRAY_BYTE_INDEX_SCALE", type := .int, accessFlags := 25, slot := 3, constantValue := 0 }, { name := "LOG2_ARRAY_CHAR_INDEX_SCALE", type := .int, accessFlags := 25, slot := 4, constantValue := 0 }, { name := "LOG2_ARRAY_SHORT_INDEX_SCALE", type := .int, accessFlags := 25, slot := 5, constantValue := 0 }, { name := "LOG2_ARRAY_INT_INDEX_SCALE", type := .int, accessFlags := 25, slot := 6, constantValue := 0 }, { name := "LOG2_ARRAY_LONG_INDEX_SCALE", type := .int, accessFlags := 25, slot := 7, constantValue := 0 }, { name := "LOG2_ARRAY_FLOAT_INDEX_SCALE", type := .int, accessFlags := 25, slot := 8, constantValue := 0 }, { name := "LOG2_ARRAY_DOUBLE_INDEX_SCALE", type := .int, accessFlags := 25, slot := 9, constantValue := 0 }, { name := "LOG2_BYTE_BIT_SIZE", type := .int, accessFlags := 26, slot := 10, constantValue := 0 }, { name := "T_BOOLEAN", type := .int, accessFlags := 25, slot := 11, constantValue := 0 }, { name := "T_CHAR", type := .int, accessFlags := 25, slot := 12, constantValue := 0 }, { name := "T_FLOAT", type := .int, accessFlags := 25, slot := 13, constantValue := 0 }, { name := "T_DOUBLE", type := .int, accessFlags := 25, slot := 14, constantValue := 0 }, { name := "T_BYTE", type := .int, accessFlags := 25, slot := 15, constantValue := 0 }, { name := "T_SHORT", type := .int, accessFlags := 25, slot := 16, constantValue := 0 }, { name := "T_INT", type := .int, accessFlags := 25, slot := 17, constantValue := 0 }, { name := "T_LONG", type := .int, accessFlags := 25, slot := 18, constantValue := 0 }, { name := "JLA", type := (.object "jdk/internal/access/JavaLangAccess"), accessFlags := 26, slot := 19, constantValue := 0 }, { name := "SOFT_MAX_ARRAY_LENGTH", type := .int, accessFlags := 25, slot := 20, constantValue := 0 }]
  methods := #[k17m0]
  instanceTypes := #[]
  staticTypes := #[(.object "jdk/internal/misc/Unsafe"), .boolean, .int, .int, .int, .int, .int, .int, .int, .int, .int, .int, .int, .int, .int, .int, .int, .int, .int, (.object "jdk/internal/access/JavaLangAccess"), .int]
  resolved := Array.replicate 378 none
  statics := none }

def pool18 : Array CpInfo := pool [(1, u "java/lang/Cloneable"), (0, .class_ 1), (0, u "java/lang/Object"), (0, .class_ 3)] 3

/-- java/lang/Cloneable -/
def k18 : Class := { plain "java/lang/Cloneable" (some 0) with
  accessFlags := 1537
  interfaces := #[]
  cf := some (fileOf pool18 2 #[] #[] 1537 4 #[] #[])
  fields := #[]
  methods := #[]
  instanceTypes := #[]
  staticTypes := #[]
  resolved := Array.replicate 8 none
  statics := none }

/-- the primitive byte -/
def k19 : Class := { plain "byte" none with kind := .primitive 'B', accessFlags := 0x411 }
/-- [B -/
def k20 : Class := { plain "[B" (some 0) with kind := .array 19 .byte, interfaces := #[18, 4], accessFlags := 1041 }

/-- the primitive char -/
def k21 : Class := { plain "char" none with kind := .primitive 'C', accessFlags := 0x411 }
/-- [C -/
def k22 : Class := { plain "[C" (some 0) with kind := .array 21 .char, interfaces := #[18, 4], accessFlags := 1041 }

/-- the primitive int -/
def k23 : Class := { plain "int" none with kind := .primitive 'I', accessFlags := 0x411 }
/-- [I -/
def k24 : Class := { plain "[I" (some 0) with kind := .array 23 .int, interfaces := #[18, 4], accessFlags := 1041 }

def heap : Heap := #[{ cls := 6, slots := #[.ref 4, .ref 5, .ref 6, .ref 7, .ref 8, .ref 9, .ref 10, .null, .null], vm := .statics 6 },
  { cls := 7, slots := #[.null, .ref 11, .ref 12, .null, .null, .null, .null, .null, .null, .null, .null, .null, .null, .null, .null, .null, .null], vm := .statics 7 },
  { cls := 12, slots := #[.long 0, .int 1, .null, .int 0, .null, .int 0, .int 0], vm := .statics 12 },
  { cls := 16, slots := #[.null, .null, .null], vm := .statics 16 },
  { cls := 6, slots := #[.null, .int 0, .int 0, .null, .ref 11, .null], vm := .none },
  { cls := 6, slots := #[.null, .int 1, .int 0, .null, .ref 12, .null], vm := .none },
  { cls := 6, slots := #[.null, .int 2, .int 0, .null, .ref 12, .null], vm := .none },
  { cls := 6, slots := #[.null, .int 3, .int 0, .null, .ref 12, .null], vm := .none },
  { cls := 6, slots := #[.null, .int 4, .int 0, .null, .ref 12, .null], vm := .none },
  { cls := 6, slots := #[.null, .int 5, .int 0, .null, .ref 11, .null], vm := .none },
  { cls := 6, slots := #[.null, .int 6, .int 0, .null, .ref 12, .null], vm := .none },
  { cls := 7, slots := #[.null, .int 1, .int 0], vm := .none },
  { cls := 7, slots := #[.null, .int 2, .int 0], vm := .none }]
def classes : Array Class := #[k0, k1, k2, k3, k4, k5, k6, k7, k8, k9, k10, k11, k12, k13, k14, k15, k16, k17, k18, k19, k20, k21, k22, k23, k24]
def interned : List (Array UInt16 × Addr) := []
def slotsUsed : Nat := 84
def theMethod : MethodId := ⟨1, 1⟩
def args0 : Array Value := #[.int 5, .int 6, .int 7, .int 8]
def aboutOver (below : List Frame) : State where
  vm := { classes := classes, interned := interned.toArray }
  heap := heap
  slotsUsed := slotsUsed
  threads := #[{ frames := .invoking theMethod args0 :: below }]
def below0 : List Frame := [.native { method := ⟨0, 0⟩, args := #[] }]
def about1 : State := aboutOver below0
def p0 : Program := .bare "" "" ""
def e0 : Env := launch0.env 0 0 0
theorem w_frames : about1.frames = Frame.invoking theMethod args0 :: below0 := rfl
set_option maxRecDepth 65536 in
theorem w_args : argsFit about1.vm theMethod args0 = true := by decide +kernel
set_option maxRecDepth 65536 in
theorem w_heap : heapFits about1 = true := by decide +kernel
set_option maxRecDepth 65536 in
theorem w_runnable : about1.curStatus? = some .runnable := by decide +kernel
set_option maxRecDepth 65536 in
theorem w_alone : about1.alone = true := by decide +kernel
set_option maxRecDepth 65536 in
theorem w_named : about1.methodNamed? x = some theMethod := by decide +kernel
set_option maxRecDepth 65536 in
theorem w_hears : about1.hears theMethod below0 = true := by decide +kernel
set_option maxRecDepth 65536 in
theorem w_ripe : about1.ripe theMethod args0 below0 = true := by decide +kernel
theorem w_running : about1.status = .running := rfl
set_option maxRecDepth 65536 in
theorem w_room : about1.hasRoom e0.platform room_1 = true :=
  launch0.hasRoom_least _ room_1 (by decide +kernel) (by decide +kernel) (by decide +kernel) (by decide +kernel) (by decide +kernel) (by decide +kernel)
theorem allAtoms_all (ts : List Jvm.Cond) (a : Array Jvm.Value) (st : Jvm.State) : (allAtoms ts).before a st = ts.all (fun c => c.before a st) := by
  induction ts with
  | nil => rfl
  | cons c t ih =>
    show (Jvm.Cond.and c (allAtoms t)).before a st = _
    rw [Jvm.Cond.before_and, ih, List.all_cons]
def words1 : List Jvm.Cond := Jvm.Cond.code x code maxLocals ret :: tables_1
/-- a 'code' word, met by the world's own term for the bytes: nothing is compared byte by byte -/
theorem code_word {y : MethodName} {bytes : ByteArray} {mx : Nat} {rt : Option FieldType} {a : Array Value} {s : State} {m : MethodId} {meth : Method} {c : Code} (h1 : s.methodNamed? y = some m) (h2 : s.vm.method? m = some meth) (h3 : meth.code = some c) (h4 : c.code = bytes)
    (h5 : (c.maxLocals == mx && c.exceptionTable.isEmpty && decide (c.maxStack ≤ mostOperands) && decide (meth.sig.returnType = rt) && !meth.locks && decide (parseMethodDescriptor y.desc = some meth.sig)) = true) : (Jvm.Cond.code y bytes mx rt).before a s = true := by
  simp only [Bool.and_eq_true, beq_iff_eq, Bool.not_eq_true', decide_eq_true_eq] at h5
  obtain ⟨⟨⟨⟨⟨g1, g2⟩, g3⟩, g4⟩, g5⟩, g6⟩ := h5
  simp [Cond.before, Cond.holds, Cond.value, h1, h2, h3, h4, g1, g2, g3, g4, g5, g6]
def isCode : Jvm.Cond → Bool
  | .code _ _ _ _ => true
  | _ => false
theorem all_split {L : List Jvm.Cond} {P : Jvm.Cond → Bool} (h1 : L.all (fun c => isCode c || P c) = true) (h2 : ∀ c ∈ L.filter isCode, P c = true) : L.all P = true := by
  refine List.all_eq_true.mpr fun c hc => ?_
  have h := List.all_eq_true.mp h1 c hc
  rcases Bool.eq_false_or_eq_true (isCode c) with hi | hi
  · exact h2 c (List.mem_filter.mpr ⟨hc, hi⟩)
  · simpa [hi] using h
set_option maxRecDepth 65536 in
theorem w_c0 : (Jvm.Cond.code x code maxLocals ret).before args0 about1 = true := code_word (m := ⟨1, 1⟩) (meth := k1m1) (c := k1c1) (by decide +kernel) rfl rfl rfl (by decide +kernel)
set_option maxRecDepth 65536 in
theorem w_c1 : (Jvm.Cond.code ({ cls := "com/example/riscontro/riscontro/rules/FieldTakesPinLaw", name := "pick", desc := "(I)Lcom/example/riscontro/riscontro/rules/Field;" } : Jvm.MethodName) method_3_code (1 : Nat) (Option.some (Jvm.ClassFile.FieldType.object "com/example/riscontro/riscontro/rules/Field"))).before args0 about1 = true := code_word (m := ⟨1, 2⟩) (meth := k1m2) (c := k1c2) (by decide +kernel) rfl rfl rfl (by decide +kernel)
set_option maxRecDepth 65536 in
theorem w_c2 : (Jvm.Cond.code ({ cls := "java/lang/String", name := "<init>", desc := "([C)V" } : Jvm.MethodName) jdk_42_method_3_code (2 : Nat) (Option.none : Option Jvm.ClassFile.FieldType)).before args0 about1 = true := code_word (m := ⟨12, 1⟩) (meth := k12m1) (c := k12c1) (by decide +kernel) rfl rfl rfl (by decide +kernel)
set_option maxRecDepth 65536 in
theorem w_c3 : (Jvm.Cond.code ({ cls := "java/lang/String", name := "<init>", desc := "([CIILjava/lang/Void;)V" } : Jvm.MethodName) jdk_42_method_149_code (6 : Nat) (Option.none : Option Jvm.ClassFile.FieldType)).before args0 about1 = true := code_word (m := ⟨12, 2⟩) (meth := k12m2) (c := k12c2) (by decide +kernel) rfl rfl rfl (by decide +kernel)
set_option maxRecDepth 65536 in
theorem w_c4 : (Jvm.Cond.code ({ cls := "java/lang/Object", name := "<init>", desc := "()V" } : Jvm.MethodName) object_method_1_code (1 : Nat) (Option.none : Option Jvm.ClassFile.FieldType)).before args0 about1 = true := code_word (m := ⟨0, 0⟩) (meth := k0m0) (c := k0c0) (by decide +kernel) rfl rfl rfl (by decide +kernel)
set_option maxRecDepth 65536 in
theorem w_c5 : (Jvm.Cond.code ({ cls := "java/lang/StringUTF16", name := "compress", desc := "([CII)[B" } : Jvm.MethodName) jdk_52_method_16_code (6 : Nat) (Option.some (Jvm.ClassFile.FieldType.array Jvm.ClassFile.FieldType.byte))).before args0 about1 = true := code_word (m := ⟨13, 2⟩) (meth := k13m2) (c := k13c2) (by decide +kernel) rfl rfl rfl (by decide +kernel)
set_option maxRecDepth 65536 in
theorem w_c6 : (Jvm.Cond.code ({ cls := "java/lang/StringUTF16", name := "compress", desc := "([CI[BII)I" } : Jvm.MethodName) jdk_52_method_21_code (7 : Nat) (Option.some Jvm.ClassFile.FieldType.int)).before args0 about1 = true := code_word (m := ⟨13, 3⟩) (meth := k13m3) (c := k13c3) (by decide +kernel) rfl rfl rfl (by decide +kernel)
set_option maxRecDepth 65536 in
theorem w_c7 : (Jvm.Cond.code ({ cls := "java/lang/StringUTF16", name := "coderFromArrayLen", desc := "([BI)B" } : Jvm.MethodName) jdk_52_method_15_code (2 : Nat) (Option.some Jvm.ClassFile.FieldType.byte)).before args0 about1 = true := code_word (m := ⟨13, 1⟩) (meth := k13m1) (c := k13c1) (by decide +kernel) rfl rfl rfl (by decide +kernel)
set_option maxRecDepth 65536 in
theorem w_c8 : (Jvm.Cond.code ({ cls := "com/example/riscontro/riscontro/rules/Token", name := "<init>", desc := "(Lcom/example/riscontro/riscontro/rules/Token$Kind;Ljava/lang/String;I)V" } : Jvm.MethodName) prog_31_method_1_code (4 : Nat) (Option.none : Option Jvm.ClassFile.FieldType)).before args0 about1 = true := code_word (m := ⟨9, 0⟩) (meth := k9m0) (c := k9c0) (by decide +kernel) rfl rfl rfl (by decide +kernel)
set_option maxRecDepth 65536 in
theorem w_c9 : (Jvm.Cond.code ({ cls := "java/lang/Record", name := "<init>", desc := "()V" } : Jvm.MethodName) jdk_30_method_1_code (1 : Nat) (Option.none : Option Jvm.ClassFile.FieldType)).before args0 about1 = true := code_word (m := ⟨8, 0⟩) (meth := k8m0) (c := k8c0) (by decide +kernel) rfl rfl rfl (by decide +kernel)
set_option maxRecDepth 65536 in
theorem w_c10 : (Jvm.Cond.code ({ cls := "java/util/Objects", name := "requireNonNull", desc := "(Ljava/lang/Object;Ljava/lang/String;)Ljava/lang/Object;" } : Jvm.MethodName) jdk_31_method_11_code (2 : Nat) (Option.some (Jvm.ClassFile.FieldType.object "java/lang/Object"))).before args0 about1 = true := code_word (m := ⟨14, 1⟩) (meth := k14m1) (c := k14c1) (by decide +kernel) rfl rfl rfl (by decide +kernel)
set_option maxRecDepth 65536 in
theorem w_c11 : (Jvm.Cond.code ({ cls := "com/example/riscontro/riscontro/rules/Field", name := "takes", desc := "(Lcom/example/riscontro/riscontro/rules/Token;)Z" } : Jvm.MethodName) prog_18_method_7_code (2 : Nat) (Option.some Jvm.ClassFile.FieldType.boolean)).before args0 about1 = true := code_word (m := ⟨6, 0⟩) (meth := k6m0) (c := k6c0) (by decide +kernel) rfl rfl rfl (by decide +kernel)
set_option maxRecDepth 65536 in
theorem w_c12 : (Jvm.Cond.code ({ cls := "com/example/riscontro/riscontro/rules/Token", name := "kind", desc := "()Lcom/example/riscontro/riscontro/rules/Token$Kind;" } : Jvm.MethodName) prog_31_method_6_code (1 : Nat) (Option.some (Jvm.ClassFile.FieldType.object "com/example/riscontro/riscontro/rules/Token$Kind"))).before args0 about1 = true := code_word (m := ⟨9, 1⟩) (meth := k9m1) (c := k9c1) (by decide +kernel) rfl rfl rfl (by decide +kernel)
def codes1 : List Jvm.Cond := [Jvm.Cond.code x code maxLocals ret, Jvm.Cond.code ({ cls := "com/example/riscontro/riscontro/rules/FieldTakesPinLaw", name := "pick", desc := "(I)Lcom/example/riscontro/riscontro/rules/Field;" } : Jvm.MethodName) method_3_code (1 : Nat) (Option.some (Jvm.ClassFile.FieldType.object "com/example/riscontro/riscontro/rules/Field")), Jvm.Cond.code ({ cls := "java/lang/String", name := "<init>", desc := "([C)V" } : Jvm.MethodName) jdk_42_method_3_code (2 : Nat) (Option.none : Option Jvm.ClassFile.FieldType), Jvm.Cond.code ({ cls := "java/lang/String", name := "<init>", desc := "([CIILjava/lang/Void;)V" } : Jvm.MethodName) jdk_42_method_149_code (6 : Nat) (Option.none : Option Jvm.ClassFile.FieldType), Jvm.Cond.code ({ cls := "java/lang/Object", name := "<init>", desc := "()V" } : Jvm.MethodName) object_method_1_code (1 : Nat) (Option.none : Option Jvm.ClassFile.FieldType), Jvm.Cond.code ({ cls := "java/lang/StringUTF16", name := "compress", desc := "([CII)[B" } : Jvm.MethodName) jdk_52_method_16_code (6 : Nat) (Option.some (Jvm.ClassFile.FieldType.array Jvm.ClassFile.FieldType.byte)), Jvm.Cond.code ({ cls := "java/lang/StringUTF16", name := "compress", desc := "([CI[BII)I" } : Jvm.MethodName) jdk_52_method_21_code (7 : Nat) (Option.some Jvm.ClassFile.FieldType.int), Jvm.Cond.code ({ cls := "java/lang/StringUTF16", name := "coderFromArrayLen", desc := "([BI)B" } : Jvm.MethodName) jdk_52_method_15_code (2 : Nat) (Option.some Jvm.ClassFile.FieldType.byte), Jvm.Cond.code ({ cls := "com/example/riscontro/riscontro/rules/Token", name := "<init>", desc := "(Lcom/example/riscontro/riscontro/rules/Token$Kind;Ljava/lang/String;I)V" } : Jvm.MethodName) prog_31_method_1_code (4 : Nat) (Option.none : Option Jvm.ClassFile.FieldType), Jvm.Cond.code ({ cls := "java/lang/Record", name := "<init>", desc := "()V" } : Jvm.MethodName) jdk_30_method_1_code (1 : Nat) (Option.none : Option Jvm.ClassFile.FieldType), Jvm.Cond.code ({ cls := "java/util/Objects", name := "requireNonNull", desc := "(Ljava/lang/Object;Ljava/lang/String;)Ljava/lang/Object;" } : Jvm.MethodName) jdk_31_method_11_code (2 : Nat) (Option.some (Jvm.ClassFile.FieldType.object "java/lang/Object")), Jvm.Cond.code ({ cls := "com/example/riscontro/riscontro/rules/Field", name := "takes", desc := "(Lcom/example/riscontro/riscontro/rules/Token;)Z" } : Jvm.MethodName) prog_18_method_7_code (2 : Nat) (Option.some Jvm.ClassFile.FieldType.boolean), Jvm.Cond.code ({ cls := "com/example/riscontro/riscontro/rules/Token", name := "kind", desc := "()Lcom/example/riscontro/riscontro/rules/Token$Kind;" } : Jvm.MethodName) prog_31_method_6_code (1 : Nat) (Option.some (Jvm.ClassFile.FieldType.object "com/example/riscontro/riscontro/rules/Token$Kind"))]
set_option maxRecDepth 65536 in
theorem codes_eq : words1.filter isCode = codes1 := rfl
theorem w_codes : ∀ c ∈ words1.filter isCode, c.before args0 about1 = true := by
  rw [codes_eq]
  intro c hc
  simp only [codes1, List.mem_cons, List.not_mem_nil, or_false] at hc
  rcases hc with rfl | rfl | rfl | rfl | rfl | rfl | rfl | rfl | rfl | rfl | rfl | rfl | rfl
  · exact w_c0
  · exact w_c1
  · exact w_c2
  · exact w_c3
  · exact w_c4
  · exact w_c5
  · exact w_c6
  · exact w_c7
  · exact w_c8
  · exact w_c9
  · exact w_c10
  · exact w_c11
  · exact w_c12
set_option maxRecDepth 65536 in
theorem w_t1 : (words1.take 24).all (fun c => isCode c || c.before args0 about1) = true := by decide +kernel
set_option maxRecDepth 65536 in
theorem w_t2 : ((words1.drop 24).take 24).all (fun c => isCode c || c.before args0 about1) = true := by decide +kernel
set_option maxRecDepth 65536 in
theorem w_t3 : (((words1.drop 24).drop 24).take 24).all (fun c => isCode c || c.before args0 about1) = true := by decide +kernel
set_option maxRecDepth 65536 in
theorem w_t4 : (((words1.drop 24).drop 24).drop 24).all (fun c => isCode c || c.before args0 about1) = true := by decide +kernel
theorem w_tables : (allAtoms (Jvm.Cond.code x code maxLocals ret :: tables_1)).before args0 about1 = true := by
  rw [allAtoms_all]
  show words1.all (fun c => c.before args0 about1) = true
  refine all_split ?_ w_codes
  rw [← List.take_append_drop 24 words1, List.all_append, w_t1, ← List.take_append_drop 24 (words1.drop 24), List.all_append, w_t2, ← List.take_append_drop 24 ((words1.drop 24).drop 24), List.all_append, w_t3, w_t4]
  rfl
set_option maxRecDepth 65536 in
theorem w_rest : rest_1_c.before args0 about1 = true := by decide +kernel
set_option maxRecDepth 65536 in
theorem w_case : (Jvm.Cond.and given_1 narrow_1).before args0 about1 = true := by decide +kernel
theorem w_applies : (headSpec (Jvm.Cond.code x code maxLocals ret :: tables_1) room_1).applies x e0.platform about1 = true :=
  (Spec.applies_iff w_frames).mpr ⟨w_running, w_runnable, w_alone, w_named, w_hears, w_ripe, w_room, w_tables⟩
theorem atStart : AtStart classFile x code maxLocals ret World_1 tables_1 room_1 Calls_1 rest_1 Pre_1 launch0 p0 e0 about1 theMethod args0 below0 :=
  ⟨lists_1, trivial, launch0.admits_env _ _ _, launch0.least_env, fairChoices_fair.cas, fairChoices_fair.clock, w_frames, w_args, w_heap, w_applies, trivial, w_rest, w_case⟩
end start1
theorem witness_1 : WitnessClaimed_1 := ⟨start1.p0, start1.e0, start1.about1, start1.theMethod, start1.args0, start1.below0, start1.atStart⟩
end Jvm.Pilot.@@N@@

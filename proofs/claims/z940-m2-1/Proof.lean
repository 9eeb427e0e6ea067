import JvmDerived
import JvmDerived.Pilot.@@N@@Statement
import JvmDerived.Pilot.@@N@@Code
set_option linter.unusedVariables false
set_option linter.unusedSimpArgs false
@@BLOCK:NumsL.lean.txt@@
/- laws to paste: Road.backV, Road.eqW, Road.codOf (cut by pick.py; bodies as the Statement names them) -/
namespace Jvm.Pilot.@@N@@
namespace StrChars
open Jvm Sem ClassFile Op Lib Jvm.Stand Jvm.Free.XT Jvm.Free.ALB Jvm.Free.JM Jvm.Free
open Jvm.Lib.Cold (StaticIs)
/-- a char array whose places are chars -/
def Ch (a : Addr) (A : Cell) (U : State) : Prop := Arr .char a A U ∧ Typed .char A
theorem Ch.mv {a : Addr} {A : Cell} {U U' : State} (h : Ch a A U) (hal : U.vm.Alike U'.vm) (hh : U'.heap = U.heap) : Ch a A U' := ⟨h.1.mv hal hh, h.2⟩
theorem Ch.keep {a : Addr} {A : Cell} {U U' : State} (h : Ch a A U) (hal : U.vm.Alike U'.vm) (hk : U'.heap[a]? = some A) : Ch a A U' := ⟨h.1.keep hal hk, h.2⟩
/-- what place i of a char[]'s cell holds -/
def cv (A : Cell) (i : Nat) : Int32 := match A.slots[i]? with | some (.int x) => x | _ => 0
theorem Ch.get {a : Addr} {A : Cell} {U : State} (h : Ch a A U) {i : Nat} (hi : i < A.slots.size) : A.slots[i]? = some (.int (cv A i)) := by
  have e := Array.getElem?_eq_getElem hi
  have f := h.2 i _ e
  unfold cv; rw [e]
  generalize A.slots[i] = v at f
  cases v <;> simp [fits] at f ⊢
/-- the byte that i2b leaves of a char -/
def lo8 (x : Int32) : Int32 := x.toInt8.toInt32
theorem fits_lo8 (y : Int32) : fits .byte (.int (lo8 y)) = true := by
  have h1 := y.toInt8.le_toInt
  have h2 := y.toInt8.toInt_lt
  simp only [lo8, fits, Bool.and_eq_true, decide_eq_true_eq, Int32.le_iff_toInt_le, Int8.toInt_toInt32, show (-128 : Int32).toInt = -128 from by decide, show (127 : Int32).toInt = 127 from by decide]
  omega
/-- A' is A but that each place j of lo .. hi - 1 holds f j -/
def Laid (A A' : Cell) (lo hi : Nat) (f : Nat → Value) : Prop := A'.cls = A.cls ∧ A'.vm = A.vm ∧ A'.slots.size = A.slots.size ∧ ∀ i, A'.slots[i]? = if lo ≤ i ∧ i < hi then some (f i) else A.slots[i]?
theorem Laid.zero (A : Cell) (lo : Nat) (f : Nat → Value) : Laid A A lo (lo + 0) f := ⟨rfl, rfl, rfl, fun i => by rw [if_neg (by omega)]⟩
theorem Laid.step {A Ak : Cell} {lo k : Nat} {f : Nat → Value} {v : Value} (h : Laid A Ak lo k f) (hlo : lo ≤ k) (hk : k < Ak.slots.size) (hv : v = f k) : Laid A (Ak.setSlot k v) lo (k + 1) f := by
  refine ⟨h.1, h.2.1, by simpa [Cell.setSlot] using h.2.2.1, fun i => ?_⟩
  by_cases e : k = i
  · subst e; rw [Cell.slots_setSlot_self v hk, if_pos (by omega), hv]
  · rw [Cell.slots_setSlot_ne v e, h.2.2.2 i]
    by_cases q : lo ≤ i ∧ i < k
    · rw [if_pos q, if_pos (by omega)]
    · rw [if_neg q, if_neg (by omega)]
def U16 : String := "java/lang/StringUTF16"
namespace Cmp5
def yN : MethodName := ⟨"java/lang/StringUTF16", "compress", "([CI[BII)I"⟩
abbrev yB : ByteArray := jdk_52_method_21_code
theorem d0 : decode yB 0 = .ok (.iconst 0, 1) := by decide +kernel
theorem d1 : decode yB 1 = .ok (.istore 5, 2) := by decide +kernel
theorem d3 : decode yB 3 = .ok (.iload 5, 2) := by decide +kernel
theorem d5 : decode yB 5 = .ok (.iload 4, 2) := by decide +kernel
theorem d7 : decode yB 7 = .ok (.if_icmp (.ge) 37, 3) := by decide +kernel
theorem d10 : decode yB 10 = .ok (.aload_n 0, 1) := by decide +kernel
theorem d11 : decode yB 11 = .ok (.iload_n 1, 1) := by decide +kernel
theorem d12 : decode yB 12 = .ok (.caload, 1) := by decide +kernel
theorem d13 : decode yB 13 = .ok (.istore 6, 2) := by decide +kernel
theorem d15 : decode yB 15 = .ok (.iload 6, 2) := by decide +kernel
theorem d17 : decode yB 17 = .ok (.sipush 255, 3) := by decide +kernel
theorem d20 : decode yB 20 = .ok (.if_icmp (.le) 6, 3) := by decide +kernel
theorem d26 : decode yB 26 = .ok (.aload_n 2, 1) := by decide +kernel
theorem d27 : decode yB 27 = .ok (.iload_n 3, 1) := by decide +kernel
theorem d28 : decode yB 28 = .ok (.iload 6, 2) := by decide +kernel
theorem d30 : decode yB 30 = .ok (.i2b, 1) := by decide +kernel
theorem d31 : decode yB 31 = .ok (.bastore, 1) := by decide +kernel
theorem d32 : decode yB 32 = .ok (.iinc 1 1, 3) := by decide +kernel
theorem d35 : decode yB 35 = .ok (.iinc 3 1, 3) := by decide +kernel
theorem d38 : decode yB 38 = .ok (.iinc 5 1, 3) := by decide +kernel
theorem d41 : decode yB 41 = .ok (.goto (-38), 3) := by decide +kernel
theorem d44 : decode yB 44 = .ok (.iload 4, 2) := by decide +kernel
theorem d46 : decode yB 46 = .ok (.ireturn, 1) := by decide +kernel
def site : List Cond := []
def tab : Cond := tabOf yN yB 7 (some .int) site
def P (b : Addr) (A : Cell) (d : Addr) (B : Cell) (o q len : Nat) (args : Array Value) (s : State) : Prop := args = #[.ref b, .int (Int32.ofNat o), .ref d, .int (Int32.ofNat q), .int (Int32.ofNat len)] ∧ Ch b A s ∧ Arr .byte d B s ∧ b ≠ d ∧ o + len ≤ A.slots.size ∧ q + len ≤ B.slots.size ∧ ∀ i, i < len → ¬ 255 < cv A (o + i)
def E (b : Addr) (A : Cell) (d : Addr) (B : Cell) (o q len : Nat) (r : Option Value) (s u : State) : Prop := r = some (.int (Int32.ofNat len)) ∧ ∃ B', Put d B' s u ∧ Laid B B' q (q + len) (fun j => Value.int (lo8 (cv A (o + (j - q)))))
/-- no char of the range above 255: len; the places written hold each char's low byte -/
theorem law (l : Launch) (b : Addr) (A : Cell) (d : Addr) (B : Cell) (o q len : Nat) : Law l yN 5 5 0 0 yB 7 (some .int) site (P b A d B o q len) (E b A d B o q len) (copyLocs d q len) 0 0 := by
  refine Law.of_walk (plainFor_of_name (by decide +kernel)) (by decide +kernel) (by decide +kernel) (by decide) (fun _ _ h => by rw [h.1]; rfl) (fun _ U U' hal hh h => ⟨h.1, h.2.1.mv hal hh, h.2.2.1.mv hal hh, h.2.2.2⟩) (fun r U U' V V' h1 hal h2 h => ⟨h.1, h.2.elim fun B' q => ⟨B', q.1.mv h1 h2, q.2⟩⟩) ?_
  intro p e s m args below meth c s₁ X0 hexec hbytes hml hret hlk hnm hown hh0 W hP
  obtain ⟨rfl, hA, hB, hne, l1, l2, hp⟩ := hP
  have c1 : Steps p.tables e below (s₁.setTop (entryFrame m #[.ref b, .int (Int32.ofNat o), .ref d, .int (Int32.ofNat q), .int (Int32.ofNat len)] 7)) (s₁.setTop (mkF m 0 #[.val (.ref b), .val (.int (Int32.ofNat o)), .val (.ref d), .val (.int (Int32.ofNat q)), .val (.int (Int32.ofNat len)), .unset, .unset] [])) := entry rfl
  have hA0 := hA.1.mv X0.warmed.alike hh0
  have hB0 := hB.mv X0.warmed.alike hh0
  have a31 := hA.1.2.2.2
  have c2 : Steps p.tables e below (s₁.setTop (entryFrame m #[.ref b, .int (Int32.ofNat o), .ref d, .int (Int32.ofNat q), .int (Int32.ofNat len)] 7)) (s₁.setTop (mkF m 3 #[.val (.ref b), .val (.int (Int32.ofNat o)), .val (.ref d), .val (.int (Int32.ofNat q)), .val (.int (Int32.ofNat len)), .val (.int 0), .unset] [])) := c1.trans (by
    refine iconstV X0.here hexec rfl 0 (hb hbytes d0) (by decide) ?_
    refine XS.istore X0.here hexec rfl (hb hbytes d1) rfl rfl ?_
    exact Steps.refl _)
  have loop : ∀ (r i : Nat), i + r = len → ∀ (z : Slot), (z = .unset ∨ ∃ w, z = .val w ∧ w.category = 1) → ∀ (Tl : State) (Bk : Cell), Stand p l e { frames := 0, locals := 0, cells := 0, slots := 0 } s m #[.ref b, .int (Int32.ofNat o), .ref d, .int (Int32.ofNat q), .int (Int32.ofNat len)] below meth c Tl ([] ++ copyLocs d q i) 0 0 → Put d Bk s₁ Tl → Laid B Bk q (q + i) (fun j => Value.int (lo8 (cv A (o + (j - q))))) →
      Steps p.tables e below (s₁.setTop (entryFrame m #[.ref b, .int (Int32.ofNat o), .ref d, .int (Int32.ofNat q), .int (Int32.ofNat len)] 7)) (Tl.setTop (mkF m 3 #[.val (.ref b), .val (.int (Int32.ofNat (o + i))), .val (.ref d), .val (.int (Int32.ofNat (q + i))), .val (.int (Int32.ofNat len)), .val (.int (Int32.ofNat i)), z] [])) → ∃ (T' : State) (B' : Cell) (z' : Slot), Stand p l e { frames := 0, locals := 0, cells := 0, slots := 0 } s m #[.ref b, .int (Int32.ofNat o), .ref d, .int (Int32.ofNat q), .int (Int32.ofNat len)] below meth c T' ([] ++ copyLocs d q len) 0 0 ∧ Put d B' s₁ T' ∧ Laid B B' q (q + len) (fun j => Value.int (lo8 (cv A (o + (j - q))))) ∧
      Steps p.tables e below (s₁.setTop (entryFrame m #[.ref b, .int (Int32.ofNat o), .ref d, .int (Int32.ofNat q), .int (Int32.ofNat len)] 7)) (T'.setTop (mkF m 3 #[.val (.ref b), .val (.int (Int32.ofNat (o + len))), .val (.ref d), .val (.int (Int32.ofNat (q + len))), .val (.int (Int32.ofNat len)), .val (.int (Int32.ofNat len)), z'] [])) := by
    intro r
    induction r with
    | zero =>
      intro i hi z hz Tl Bk Xl pl fl cl
      have hil : i = len := by omega
      rw [hil] at Xl fl cl
      exact ⟨Tl, Bk, z, Xl, pl, fl, cl⟩
    | succ r ih =>
      intro i hi z hz Tl Bk Xl pl fl cl
      have all := X0.warmed.alike.symm.trans Xl.warmed.alike
      have hAl := hA0.keep all (pl.other hne hA0.1)
      have hBk := hB0.like all pl.1 fl.1 fl.2.1 fl.2.2.1
      have hlt : q + i < Bk.slots.size := by rw [fl.2.2.1]; omega
      have c3 : Steps p.tables e below (s₁.setTop (entryFrame m #[.ref b, .int (Int32.ofNat o), .ref d, .int (Int32.ofNat q), .int (Int32.ofNat len)] 7)) (Tl.setTop (mkF m 12 #[.val (.ref b), .val (.int (Int32.ofNat (o + i))), .val (.ref d), .val (.int (Int32.ofNat (q + i))), .val (.int (Int32.ofNat len)), .val (.int (Int32.ofNat i)), z] [.int (Int32.ofNat (o + i)), .ref b])) := cl.trans (by
        refine XS.iload Xl.here hexec rfl (hb hbytes d3) rfl ?_
        refine XS.iload Xl.here hexec rfl (hb hbytes d5) rfl ?_
        refine XS.icmpNo Xl.here hexec rfl (hb hbytes d7) rfl (ii_ge_f (lt32 (by omega) (by omega))) ?_
        refine XS.aloadN Xl.here hexec rfl (hb hbytes d10) rfl rfl ?_
        refine XS.iloadN Xl.here hexec rfl (hb hbytes d11) rfl ?_
        exact Steps.refl _)
      have c4 : Steps p.tables e below (s₁.setTop (entryFrame m #[.ref b, .int (Int32.ofNat o), .ref d, .int (Int32.ofNat q), .int (Int32.ofNat len)] 7)) (Tl.setTop (mkF m 13 #[.val (.ref b), .val (.int (Int32.ofNat (o + i))), .val (.ref d), .val (.int (Int32.ofNat (q + i))), .val (.int (Int32.ofNat len)), .val (.int (Int32.ofNat i)), z] [.int (cv A (o + i))])) := c3.trans (by
        refine Xl.aget hexec hAl rfl (hA.get (i := o + i) (by omega)) rfl rfl (hb hbytes d12) ?_
        exact Steps.refl _)
      have c5 : Steps p.tables e below (s₁.setTop (entryFrame m #[.ref b, .int (Int32.ofNat o), .ref d, .int (Int32.ofNat q), .int (Int32.ofNat len)] 7)) (Tl.setTop (mkF m 15 #[.val (.ref b), .val (.int (Int32.ofNat (o + i))), .val (.ref d), .val (.int (Int32.ofNat (q + i))), .val (.int (Int32.ofNat len)), .val (.int (Int32.ofNat i)), .val (.int (cv A (o + i)))] [])) := c4.trans (by
        refine XS.istoreS Xl.here hexec rfl (hb hbytes d13) rfl rfl hz ?_
        exact Steps.refl _)
      have c6 : Steps p.tables e below (s₁.setTop (entryFrame m #[.ref b, .int (Int32.ofNat o), .ref d, .int (Int32.ofNat q), .int (Int32.ofNat len)] 7)) (Tl.setTop (mkF m 31 #[.val (.ref b), .val (.int (Int32.ofNat (o + i))), .val (.ref d), .val (.int (Int32.ofNat (q + i))), .val (.int (Int32.ofNat len)), .val (.int (Int32.ofNat i)), .val (.int (cv A (o + i)))] [.int (lo8 (cv A (o + i))), .int (Int32.ofNat (q + i)), .ref d])) := c5.trans (by
        refine XS.iload Xl.here hexec rfl (hb hbytes d15) rfl ?_
        refine sipushV Xl.here hexec rfl 255 (hb hbytes d17) (by decide) ?_
        refine XS.icmpYes Xl.here hexec rfl (pc0 := 20) rfl (hb hbytes d20) rfl (ii_le_t (hp i (by omega))) (by decide) rfl ?_
        refine XS.aloadN Xl.here hexec rfl (hb hbytes d26) rfl rfl ?_
        refine XS.iloadN Xl.here hexec rfl (hb hbytes d27) rfl ?_
        refine XS.iload Xl.here hexec rfl (hb hbytes d28) rfl ?_
        refine i2b Xl.here hexec rfl (hb hbytes d30) rfl ?_
        exact Steps.refl _)
      obtain ⟨T7, X7, p7, st7⟩ := Xl.aput hexec hBk rfl hlt rfl (fits_lo8 (cv A (o + i))) (g := (mkF m 31 #[.val (.ref b), .val (.int (Int32.ofNat (o + i))), .val (.ref d), .val (.int (Int32.ofNat (q + i))), .val (.int (Int32.ofNat len)), .val (.int (Int32.ofNat i)), .val (.int (cv A (o + i)))] [.int (lo8 (cv A (o + i))), .int (Int32.ofNat (q + i)), .ref d])) rfl (rest := []) rfl (hb hbytes d31)
      have c8 : Steps p.tables e below (s₁.setTop (entryFrame m #[.ref b, .int (Int32.ofNat o), .ref d, .int (Int32.ofNat q), .int (Int32.ofNat len)] 7)) (T7.setTop (mkF m 32 #[.val (.ref b), .val (.int (Int32.ofNat (o + i))), .val (.ref d), .val (.int (Int32.ofNat (q + i))), .val (.int (Int32.ofNat len)), .val (.int (Int32.ofNat i)), .val (.int (cv A (o + i)))] [])) := c6.trans (st7 _ (Steps.refl _))
      have c9 : Steps p.tables e below (s₁.setTop (entryFrame m #[.ref b, .int (Int32.ofNat o), .ref d, .int (Int32.ofNat q), .int (Int32.ofNat len)] 7)) (T7.setTop (mkF m 3 #[.val (.ref b), .val (.int (Int32.ofNat (o + i) + 1)), .val (.ref d), .val (.int (Int32.ofNat (q + i) + 1)), .val (.int (Int32.ofNat len)), .val (.int (Int32.ofNat i + 1)), .val (.int (cv A (o + i)))] [])) := c8.trans (by
        refine iincV X7.here hexec rfl 1 (hb hbytes d32) (by decide) rfl rfl ?_
        refine iincV X7.here hexec rfl 1 (hb hbytes d35) (by decide) rfl rfl ?_
        refine iincV X7.here hexec rfl 1 (hb hbytes d38) (by decide) rfl rfl ?_
        refine XS.goto X7.here hexec rfl (pc0 := 41) rfl (hb hbytes d41) (by decide) rfl ?_
        exact Steps.refl _)
      have c10 : Steps p.tables e below (s₁.setTop (entryFrame m #[.ref b, .int (Int32.ofNat o), .ref d, .int (Int32.ofNat q), .int (Int32.ofNat len)] 7)) (T7.setTop (mkF m 3 #[.val (.ref b), .val (.int (Int32.ofNat (o + (i + 1)))), .val (.ref d), .val (.int (Int32.ofNat (q + (i + 1)))), .val (.int (Int32.ofNat len)), .val (.int (Int32.ofNat (i + 1))), .val (.int (cv A (o + i)))] [])) := by
        have := c9
        rw [succ32, succ32, succ32] at this
        exact this
      exact ih (i + 1) (by omega) _ (Or.inr ⟨_, rfl, rfl⟩) T7 _ (by rw [copyLocs_step, ← List.append_assoc]; exact X7) (pl.trans p7) (fl.step (by omega) hlt (by simp)) c10
  obtain ⟨T9, B9, z9, X9, p9, f9, g9⟩ := loop len 0 (by omega) .unset (Or.inl rfl) s₁ B (by simpa [copyLocs] using X0) ⟨hB0.1, fun _ _ => rfl, rfl⟩ (Laid.zero _ _ _) c2
  have c11 : Steps p.tables e below (s₁.setTop (entryFrame m #[.ref b, .int (Int32.ofNat o), .ref d, .int (Int32.ofNat q), .int (Int32.ofNat len)] 7)) (T9.setTop (mkF m 46 #[.val (.ref b), .val (.int (Int32.ofNat (o + len))), .val (.ref d), .val (.int (Int32.ofNat (q + len))), .val (.int (Int32.ofNat len)), .val (.int (Int32.ofNat len)), z9] [.int (Int32.ofNat len)])) := g9.trans (by
    refine XS.iload X9.here hexec rfl (hb hbytes d3) rfl ?_
    refine XS.iload X9.here hexec rfl (hb hbytes d5) rfl ?_
    refine XS.icmpYes X9.here hexec rfl (pc0 := 7) rfl (hb hbytes d7) rfl (ii_ge_t (nlt32 (by omega) (Nat.le_refl _))) (by decide) rfl ?_
    refine XS.iload X9.here hexec rfl (hb hbytes d44) rfl ?_
    exact Steps.refl _)
  exact ⟨T9, some (.int (Int32.ofNat len)), _, _, _, X9, by simp, rfl, rfl, (fun h => by cases h), ⟨rfl, B9, p9.from hh0, f9⟩, fun fs hl => c11.trans (X9.ireturnOut hexec hret rfl (Or.inl rfl) (hb hbytes d46) hl)⟩
end Cmp5
namespace Cmp3
def yN : MethodName := ⟨"java/lang/StringUTF16", "compress", "([CII)[B"⟩
abbrev yB : ByteArray := jdk_52_method_16_code
theorem d0 : decode yB 0 = .ok (.iload_n 2, 1) := by decide +kernel
theorem d1 : decode yB 1 = .ok (.newarray .byte, 2) := by decide +kernel
theorem d3 : decode yB 3 = .ok (.astore_n 3, 1) := by decide +kernel
theorem d4 : decode yB 4 = .ok (.aload_n 0, 1) := by decide +kernel
theorem d5 : decode yB 5 = .ok (.iload_n 1, 1) := by decide +kernel
theorem d6 : decode yB 6 = .ok (.aload_n 3, 1) := by decide +kernel
theorem d7 : decode yB 7 = .ok (.iconst 0, 1) := by decide +kernel
theorem d8 : decode yB 8 = .ok (.iload_n 2, 1) := by decide +kernel
theorem d9 : decode yB 9 = .ok (.invokestatic 115, 3) := by decide +kernel
theorem d12 : decode yB 12 = .ok (.istore 4, 2) := by decide +kernel
theorem d14 : decode yB 14 = .ok (.iload 4, 2) := by decide +kernel
theorem d16 : decode yB 16 = .ok (.iload_n 2, 1) := by decide +kernel
theorem d17 : decode yB 17 = .ok (.if_icmp (.eq) 40, 3) := by decide +kernel
theorem d57 : decode yB 57 = .ok (.aload_n 3, 1) := by decide +kernel
theorem d58 : decode yB 58 = .ok (.areturn, 1) := by decide +kernel
def site : List Cond := [.arrayClass .byte, Cmp5.tab] ++ staticW U16 115 Cmp5.yN
def tab : Cond := tabOf yN yB 6 (some (.array .byte)) site
def P (b : Addr) (A : Cell) (o len : Nat) (args : Array Value) (s : State) : Prop := args = #[.ref b, .int (Int32.ofNat o), .int (Int32.ofNat len)] ∧ Ch b A s ∧ o + len ≤ A.slots.size ∧ len ≤ 536870912 ∧ ∀ i, i < len → ¬ 255 < cv A (o + i)
def E (b : Addr) (A : Cell) (o len : Nat) (r : Option Value) (s u : State) : Prop := NewArr .byte "[B" len (fun j => .int (lo8 (cv A (o + j)))) r s u ∧ u.heap.size = s.heap.size + 1
/-- no char of the range above 255: a new byte[] of their low bytes -/
theorem law (l : Launch) (b : Addr) (A : Cell) (o len : Nat) : Law l yN 3 3 1 18 yB 6 (some (.array .byte)) site (P b A o len) (E b A o len) [] 1 len := by
  refine Law.of_walk (plainFor_of_name (by decide +kernel)) (by decide +kernel) (by decide +kernel) (by decide) (fun _ _ h => by rw [h.1]; rfl) (fun _ U U' hal hh h => ⟨h.1, h.2.1.mv hal hh, h.2.2⟩) (fun r U U' V V' h1 hal h2 h => ⟨NewArr.mv r U U' V V' h1 hal h2 h.1, by rw [h1, h2]; exact h.2⟩) ?_
  intro p e s m args below meth c s₁ X0 hexec hbytes hml hret hlk hnm hown hh0 W hP
  obtain ⟨rfl, hA, l1, l2, hp⟩ := hP
  have a31 := hA.1.2.2.2
  have c1 : Steps p.tables e below (s₁.setTop (entryFrame m #[.ref b, .int (Int32.ofNat o), .int (Int32.ofNat len)] 6)) (s₁.setTop (mkF m 0 #[.val (.ref b), .val (.int (Int32.ofNat o)), .val (.int (Int32.ofNat len)), .unset, .unset, .unset] [])) := entry rfl
  have c2 : Steps p.tables e below (s₁.setTop (entryFrame m #[.ref b, .int (Int32.ofNat o), .int (Int32.ofNat len)] 6)) (s₁.setTop (mkF m 1 #[.val (.ref b), .val (.int (Int32.ofNat o)), .val (.int (Int32.ofNat len)), .unset, .unset, .unset] [.int (Int32.ofNat len)])) := c1.trans (by
    refine XS.iloadN X0.here hexec rfl (hb hbytes d0) rfl ?_
    exact Steps.refl _)
  obtain ⟨T3, B3, X3, ba3, bs3, bv3, bh3, bf3, st3⟩ := X0.anew hexec (atype := .byte) (wk W (.arrayClass .byte)) rfl (by show len * 1 ≤ _; omega) (by omega) (g := (mkF m 1 #[.val (.ref b), .val (.int (Int32.ofNat o)), .val (.int (Int32.ofNat len)), .unset, .unset, .unset] [.int (Int32.ofNat len)])) rfl (hb hbytes d1) (rest := []) rfl (Nat.le_refl _) (by show 0 + len ≤ len; omega)
  rw [hh0] at ba3 st3
  have kp3 : XT.Kept s T3 := (XT.Kept.of_eq hh0).push bh3
  have hA3 := hA.keep X3.warmed.alike (kp3 _ _ hA.1.1)
  have hne : b ≠ s.heap.size := hA.1.ne
  have c4 : Steps p.tables e below (s₁.setTop (entryFrame m #[.ref b, .int (Int32.ofNat o), .int (Int32.ofNat len)] 6)) (T3.setTop (mkF m 3 #[.val (.ref b), .val (.int (Int32.ofNat o)), .val (.int (Int32.ofNat len)), .unset, .unset, .unset] [.ref s.heap.size])) := c2.trans (st3 _ (Steps.refl _))
  have c5 : Steps p.tables e below (s₁.setTop (entryFrame m #[.ref b, .int (Int32.ofNat o), .int (Int32.ofNat len)] 6)) (T3.setTop (mkF m 9 #[.val (.ref b), .val (.int (Int32.ofNat o)), .val (.int (Int32.ofNat len)), .val (.ref s.heap.size), .unset, .unset] [.int (Int32.ofNat len), .int 0, .ref s.heap.size, .int (Int32.ofNat o), .ref b])) := c4.trans (by
    refine XS.astoreN X3.here hexec rfl (hb hbytes d3) rfl rfl rfl ?_
    refine XS.aloadN X3.here hexec rfl (hb hbytes d4) rfl rfl ?_
    refine XS.iloadN X3.here hexec rfl (hb hbytes d5) rfl ?_
    refine XS.aloadN X3.here hexec rfl (hb hbytes d6) rfl rfl ?_
    refine iconstV X3.here hexec rfl 0 (hb hbytes d7) (by decide) ?_
    refine XS.iloadN X3.here hexec rfl (hb hbytes d8) rfl ?_
    exact Steps.refl _)
  obtain ⟨v6, T6, X6, E6, g6⟩ := X3.callS hexec (Cmp5.law l b A s.heap.size B3 o 0 len) hown (wks W (staticW U16 115 Cmp5.yN)) (wk W Cmp5.tab) (W := 0) (Nat.le_of_ble_eq_true rfl) (Nat.le_of_ble_eq_true rfl) (Nat.le_refl _) (by show 0 + len + 0 ≤ len; omega) (g := (mkF m 9 #[.val (.ref b), .val (.int (Int32.ofNat o)), .val (.int (Int32.ofNat len)), .val (.ref s.heap.size), .unset, .unset] [.int (Int32.ofNat len), .int (Int32.ofNat 0), .ref s.heap.size, .int (Int32.ofNat o), .ref b])) rfl (by rw [hml]; rfl) c5 (argsL := [.ref b, .int (Int32.ofNat o), .ref s.heap.size, .int (Int32.ofNat 0), .int (Int32.ofNat len)]) (rest := []) rfl rfl (by show 2 * 0 + 0 ≤ _; decide) (hb hbytes d9) (⟨rfl, hA3, ba3, hne, l1, by rw [bs3]; simp, hp⟩)
  obtain ⟨rfl, B6, p6, f6⟩ := E6
  have c7 : Steps p.tables e below (s₁.setTop (entryFrame m #[.ref b, .int (Int32.ofNat o), .int (Int32.ofNat len)] 6)) (T6.setTop (mkF m 12 #[.val (.ref b), .val (.int (Int32.ofNat o)), .val (.int (Int32.ofNat len)), .val (.ref s.heap.size), .unset, .unset] [.int (Int32.ofNat len)])) := g6
  have c8 : Steps p.tables e below (s₁.setTop (entryFrame m #[.ref b, .int (Int32.ofNat o), .int (Int32.ofNat len)] 6)) (T6.setTop (mkF m 58 #[.val (.ref b), .val (.int (Int32.ofNat o)), .val (.int (Int32.ofNat len)), .val (.ref s.heap.size), .val (.int (Int32.ofNat len)), .unset] [.ref s.heap.size])) := c7.trans (by
    refine XS.istore X6.here hexec rfl (hb hbytes d12) rfl rfl ?_
    refine XS.iload X6.here hexec rfl (hb hbytes d14) rfl ?_
    refine XS.iloadN X6.here hexec rfl (hb hbytes d16) rfl ?_
    refine XS.icmpYes X6.here hexec rfl (pc0 := 17) rfl (hb hbytes d17) rfl (ii_eq_t rfl) (by decide) rfl ?_
    refine XS.aloadN X6.here hexec rfl (hb hbytes d57) rfl rfl ?_
    exact Steps.refl _)
  have X8 := X6.wide (L' := []) (cells' := 1) (slots' := len) (fun x hx hlt => by
    simp only [List.nil_append, copyLocs, List.mem_map, List.mem_range] at hx
    obtain ⟨i, -, rfl⟩ := hx
    exact absurd hlt (Nat.lt_irrefl _)) (Nat.le_refl _) (by omega)
  exact ⟨T6, some (.ref s.heap.size), _, _, _, X8, rfl, rfl, rfl, (fun h => by cases h), ⟨⟨rfl, B6, ba3.like (X3.warmed.alike.symm.trans X6.warmed.alike) p6.1 f6.1 f6.2.1 f6.2.2.1, f6.2.1.trans bv3, by rw [X6.warmed.alike.findClass, f6.1]; exact bf3, by rw [f6.2.2.1, bs3]; simp, fun j hj => by rw [f6.2.2.2 j, if_pos (by omega)]; rfl, kp3.put p6 (Nat.le_refl _)⟩, by rw [p6.2.2, bh3, hh0]; simp⟩, fun fs hl => c8.trans (X8.areturnOut hexec rfl hret rfl (hb hbytes d58) hl)⟩
end Cmp3
namespace CodL
def yN : MethodName := ⟨"java/lang/StringUTF16", "coderFromArrayLen", "([BI)B"⟩
abbrev yB : ByteArray := jdk_52_method_15_code
theorem d0 : decode yB 0 = .ok (.iload_n 1, 1) := by decide +kernel
theorem d1 : decode yB 1 = .ok (.aload_n 0, 1) := by decide +kernel
theorem d2 : decode yB 2 = .ok (.arraylength, 1) := by decide +kernel
theorem d3 : decode yB 3 = .ok (.isub, 1) := by decide +kernel
theorem d4 : decode yB 4 = .ok (.bipush 31, 2) := by decide +kernel
theorem d6 : decode yB 6 = .ok (.iushr, 1) := by decide +kernel
theorem d7 : decode yB 7 = .ok (.i2b, 1) := by decide +kernel
theorem d8 : decode yB 8 = .ok (.ireturn, 1) := by decide +kernel
def site : List Cond := []
def tab : Cond := tabOf yN yB 2 (some .byte) site
def P (d : Addr) (B : Cell) (args : Array Value) (s : State) : Prop := args = #[.ref d, .int (Int32.ofNat B.slots.size)] ∧ Arr .byte d B s
def E (r : Option Value) (s u : State) : Prop := XT.PureE (some (.int 0)) r s u
/-- an array as long as the number of chars: LATIN1 -/
theorem law (l : Launch) (d : Addr) (B : Cell) : Law l yN 2 2 0 0 yB 2 (some .byte) site (P d B) E [] 0 0 := by
  refine Law.of_walk (plainFor_of_name (by decide +kernel)) (by decide +kernel) (by decide +kernel) (by decide) (fun _ _ h => by rw [h.1]; rfl) (fun _ U U' hal hh h => ⟨h.1, h.2.mv hal hh⟩) (fun r U U' V V' h1 hal h2 h => XT.PureE.mv r U U' V V' h1 hal h2 h) ?_
  intro p e s m args below meth c s₁ X0 hexec hbytes hml hret hlk hnm hown hh0 W hP
  obtain ⟨rfl, hB⟩ := hP
  have hB0 := hB.mv X0.warmed.alike hh0
  have c1 : Steps p.tables e below (s₁.setTop (entryFrame m #[.ref d, .int (Int32.ofNat B.slots.size)] 2)) (s₁.setTop (mkF m 0 #[.val (.ref d), .val (.int (Int32.ofNat B.slots.size))] [])) := entry rfl
  have c2 : Steps p.tables e below (s₁.setTop (entryFrame m #[.ref d, .int (Int32.ofNat B.slots.size)] 2)) (s₁.setTop (mkF m 2 #[.val (.ref d), .val (.int (Int32.ofNat B.slots.size))] [.ref d, .int (Int32.ofNat B.slots.size)])) := c1.trans (by
    refine XS.iloadN X0.here hexec rfl (hb hbytes d0) rfl ?_
    refine XS.aloadN X0.here hexec rfl (hb hbytes d1) rfl rfl ?_
    exact Steps.refl _)
  have c3 : Steps p.tables e below (s₁.setTop (entryFrame m #[.ref d, .int (Int32.ofNat B.slots.size)] 2)) (s₁.setTop (mkF m 8 #[.val (.ref d), .val (.int (Int32.ofNat B.slots.size))] [.int (lo8 (ushr (Int32.ofNat B.slots.size - Int32.ofNat B.slots.size) 31))])) := c2.trans (by
    refine X0.alen hexec hB0 rfl rfl (hb hbytes d2) ?_
    refine XS.isub X0.here hexec rfl (hb hbytes d3) rfl ?_
    refine bipushV X0.here hexec rfl 31 (hb hbytes d4) (by decide) ?_
    refine iushr X0.here hexec rfl (hb hbytes d6) rfl ?_
    refine i2b X0.here hexec rfl (hb hbytes d7) rfl ?_
    exact Steps.refl _)
  have e0 : lo8 (ushr (Int32.ofNat B.slots.size - Int32.ofNat B.slots.size) 31) = 0 := by rw [Int32.sub_self]; decide
  rw [e0] at c3
  exact ⟨s₁, some (.int 0), _, _, _, X0, rfl, rfl, rfl, (fun h => by cases h), ⟨rfl, hh0⟩, fun fs hl => c3.trans (X0.ireturnOut hexec hret rfl (Or.inr (Or.inr (Or.inl rfl))) (hb hbytes d8) hl)⟩
end CodL
/-- the String at a is Latin-1 over a new byte[] (the heap's one new cell): the low bytes of the len chars of A from o on; every cell but a is kept -/
def Got (a : Addr) (D : Cell) (fV fC : Field) (A : Cell) (o len : Nat) (r : Option Value) (s u : State) : Prop := r = none ∧ ∃ D' V : Cell, Blank "java/lang/String" a D' u ∧ Same D D' [fV.slot, fC.slot] ∧ D'.slots[fV.slot]? = some (.ref s.heap.size) ∧ D'.slots[fC.slot]? = some (.int 0) ∧ Arr .byte s.heap.size V u ∧ V.vm = .none ∧ u.vm.findClass "[B" = some V.cls ∧ V.slots.size = len ∧ (∀ j, j < len → V.slots[j]? = some (.int (lo8 (cv A (o + j))))) ∧ (∀ (y : Addr) (c : Cell), y ≠ a → s.heap[y]? = some c → u.heap[y]? = some c) ∧ u.heap.size = s.heap.size + 1
theorem Got.mv {a : Addr} {D A : Cell} {fV fC : Field} {o len : Nat} : ∀ r (U U' V V' : State), U'.heap = U.heap → V.vm.Alike V'.vm → V'.heap = V.heap → Got a D fV fC A o len r U V → Got a D fV fC A o len r U' V' :=
  fun r U U' V V' h1 hal h2 ⟨e0, D', X, a1, a2, a3, a4, a5, a6, a7, a8, a9, a10, a11⟩ => ⟨e0, D', X, a1.mv hal h2, a2, by rw [h1]; exact a3, a4, by rw [h1]; exact a5.mv hal h2, a6, by rw [hal.findClass]; exact a7, a8, a9, by rw [h1, h2]; exact a10, by rw [h1, h2]; exact a11⟩
namespace New4
def yN : MethodName := ⟨"java/lang/String", "<init>", "([CIILjava/lang/Void;)V"⟩
abbrev yB : ByteArray := jdk_42_method_149_code
theorem d0 : decode yB 0 = .ok (.aload_n 0, 1) := by decide +kernel
theorem d1 : decode yB 1 = .ok (.invokespecial 1, 3) := by decide +kernel
theorem d4 : decode yB 4 = .ok (.iload_n 3, 1) := by decide +kernel
theorem d5 : decode yB 5 = .ok (.ifCond (.ne) 22, 3) := by decide +kernel
theorem d27 : decode yB 27 = .ok (.getstatic 38, 3) := by decide +kernel
theorem d30 : decode yB 30 = .ok (.ifCond (.eq) 28, 3) := by decide +kernel
theorem d33 : decode yB 33 = .ok (.aload_n 1, 1) := by decide +kernel
theorem d34 : decode yB 34 = .ok (.iload_n 2, 1) := by decide +kernel
theorem d35 : decode yB 35 = .ok (.iload_n 3, 1) := by decide +kernel
theorem d36 : decode yB 36 = .ok (.invokestatic 177, 3) := by decide +kernel
theorem d39 : decode yB 39 = .ok (.astore 5, 2) := by decide +kernel
theorem d41 : decode yB 41 = .ok (.aload_n 0, 1) := by decide +kernel
theorem d42 : decode yB 42 = .ok (.aload 5, 2) := by decide +kernel
theorem d44 : decode yB 44 = .ok (.iload_n 3, 1) := by decide +kernel
theorem d45 : decode yB 45 = .ok (.invokestatic 47, 3) := by decide +kernel
theorem d48 : decode yB 48 = .ok (.putfield 15, 3) := by decide +kernel
theorem d51 : decode yB 51 = .ok (.aload_n 0, 1) := by decide +kernel
theorem d52 : decode yB 52 = .ok (.aload 5, 2) := by decide +kernel
theorem d54 : decode yB 54 = .ok (.putfield 9, 3) := by decide +kernel
theorem d57 : decode yB 57 = .ok (.return_, 1) := by decide +kernel
def site : List Cond := [.fieldLink "java/lang/String" 38 "java/lang/String" "COMPACT_STRINGS" "Z", Cmp3.tab, CodL.tab, .laysFinal "java/lang/String" "java/lang/String" "value" "[B", .fieldLink "java/lang/String" 9 "java/lang/String" "value" "[B", .laysFinal "java/lang/String" "java/lang/String" "coder" "B", .fieldLink "java/lang/String" 15 "java/lang/String" "coder" "B"] ++ objW "java/lang/String" 1 ++ staticW "java/lang/String" 177 Cmp3.yN ++ staticW "java/lang/String" 47 CodL.yN
def tab : Cond := tabOf yN yB 6 none site
def P (a : Addr) (D : Cell) (fV fC : Field) (b : Addr) (A : Cell) (z : Int32) (o len : Nat) (args : Array Value) (s : State) : Prop := args = #[.ref a, .ref b, .int (Int32.ofNat o), .int (Int32.ofNat len), .null] ∧ Blank "java/lang/String" a D s ∧ Found "java/lang/String" "value" "[B" fV s ∧ Found "java/lang/String" "coder" "B" fC s ∧ Ch b A s ∧ StaticIs s "java/lang/String" "COMPACT_STRINGS" "Z" (.int z) ∧ ¬ z = 0 ∧ 0 < len ∧ o + len ≤ A.slots.size ∧ len ≤ 536870912 ∧ ∀ i, i < len → ¬ 255 < cv A (o + i)
def E (a : Addr) (D : Cell) (fV fC : Field) (A : Cell) (o len : Nat) (r : Option Value) (s u : State) : Prop := Got a D fV fC A o len r s u
/-- len > 0, no char of the range above 255: a Latin-1 String of their low bytes -/
theorem law (l : Launch) (a : Addr) (D : Cell) (fV fC : Field) (b : Addr) (A : Cell) (z : Int32) (o len : Nat) : Law l yN 5 4 2 35 yB 6 none site (P a D fV fC b A z o len) (E a D fV fC A o len) [⟨a, fC.slot⟩, ⟨a, fV.slot⟩] 1 len := by
  refine Law.of_walk (plainFor_of_name (by decide +kernel)) (by decide +kernel) (by decide +kernel) (by decide) (fun _ _ h => by rw [h.1]; rfl) (fun _ U U' hal hh h => ⟨h.1, h.2.1.mv hal hh, h.2.2.1.al hal, h.2.2.2.1.al hal, h.2.2.2.2.1.mv hal hh, h.2.2.2.2.2.1.there hal hh, h.2.2.2.2.2.2⟩) (fun r U U' V V' h1 hal h2 h => Got.mv r U U' V V' h1 hal h2 h) ?_
  intro p e s m args below meth c s₁ X0 hexec hbytes hml hret hlk hnm hown hh0 W hP
  obtain ⟨rfl, hB, f1, f2, hA, s1, hz, l0, l1, l2, hp⟩ := hP
  have a31 := hA.1.2.2.2
  have c1 : Steps p.tables e below (s₁.setTop (entryFrame m #[.ref a, .ref b, .int (Int32.ofNat o), .int (Int32.ofNat len), .null] 6)) (s₁.setTop (mkF m 0 #[.val (.ref a), .val (.ref b), .val (.int (Int32.ofNat o)), .val (.int (Int32.ofNat len)), .val .null, .unset] [])) := entry rfl
  have c2 : Steps p.tables e below (s₁.setTop (entryFrame m #[.ref a, .ref b, .int (Int32.ofNat o), .int (Int32.ofNat len), .null] 6)) (s₁.setTop (mkF m 1 #[.val (.ref a), .val (.ref b), .val (.int (Int32.ofNat o)), .val (.int (Int32.ofNat len)), .val .null, .unset] [.ref a])) := c1.trans (by
    refine XS.aloadN X0.here hexec rfl (hb hbytes d0) rfl rfl ?_
    exact Steps.refl _)
  obtain ⟨T3, X3, q3, st3⟩ := X0.oinit hexec hown (wks W (objW "java/lang/String" 1)) (g := (mkF m 1 #[.val (.ref a), .val (.ref b), .val (.int (Int32.ofNat o)), .val (.int (Int32.ofNat len)), .val .null, .unset] [.ref a])) rfl (by rw [hml]; rfl) (rest := []) rfl (hb hbytes d1) (W := 0) (by show 2 * 0 + 0 ≤ _; decide) (Nat.le_of_ble_eq_true rfl) (Nat.le_of_ble_eq_true rfl)
  have hh3 := q3.trans hh0
  have c4 : Steps p.tables e below (s₁.setTop (entryFrame m #[.ref a, .ref b, .int (Int32.ofNat o), .int (Int32.ofNat len), .null] 6)) (T3.setTop (mkF m 27 #[.val (.ref a), .val (.ref b), .val (.int (Int32.ofNat o)), .val (.int (Int32.ofNat len)), .val .null, .unset] [])) := (c2.trans (st3 _ (Steps.refl _))).trans (by
    refine XS.iloadN X3.here hexec rfl (hb hbytes d4) rfl ?_
    refine XS.ifYes X3.here hexec rfl (pc0 := 5) rfl (hb hbytes d5) rfl (i0_ne_t (nz32 (by omega) l0)) (by decide) rfl ?_
    exact Steps.refl _)
  obtain ⟨T5, X5, q5, st5⟩ := X3.sget hexec hown (wk W (.fieldLink "java/lang/String" 38 "java/lang/String" "COMPACT_STRINGS" "Z")) s1 (fun _ _ h => by rw [hh3]; exact h) (g := (mkF m 27 #[.val (.ref a), .val (.ref b), .val (.int (Int32.ofNat o)), .val (.int (Int32.ofNat len)), .val .null, .unset] [])) rfl (hb hbytes d27)
  have hh5 := q5.trans hh3
  have c6 : Steps p.tables e below (s₁.setTop (entryFrame m #[.ref a, .ref b, .int (Int32.ofNat o), .int (Int32.ofNat len), .null] 6)) (T5.setTop (mkF m 30 #[.val (.ref a), .val (.ref b), .val (.int (Int32.ofNat o)), .val (.int (Int32.ofNat len)), .val .null, .unset] [.int z])) := c4.trans (st5 _ (Steps.refl _))
  have c7 : Steps p.tables e below (s₁.setTop (entryFrame m #[.ref a, .ref b, .int (Int32.ofNat o), .int (Int32.ofNat len), .null] 6)) (T5.setTop (mkF m 36 #[.val (.ref a), .val (.ref b), .val (.int (Int32.ofNat o)), .val (.int (Int32.ofNat len)), .val .null, .unset] [.int (Int32.ofNat len), .int (Int32.ofNat o), .ref b])) := c6.trans (by
    refine XS.ifNo X5.here hexec rfl (hb hbytes d30) rfl (i0_eq_f hz) ?_
    refine XS.aloadN X5.here hexec rfl (hb hbytes d33) rfl rfl ?_
    refine XS.iloadN X5.here hexec rfl (hb hbytes d34) rfl ?_
    refine XS.iloadN X5.here hexec rfl (hb hbytes d35) rfl ?_
    exact Steps.refl _)
  obtain ⟨v8, T8, X8, E8, g8⟩ := X5.callS hexec (Cmp3.law l b A o len) hown (wks W (staticW "java/lang/String" 177 Cmp3.yN)) (wk W Cmp3.tab) (W := 0) (Nat.le_of_ble_eq_true rfl) (Nat.le_of_ble_eq_true rfl) (Nat.le_refl _) (by show 0 + len ≤ len; omega) (g := (mkF m 36 #[.val (.ref a), .val (.ref b), .val (.int (Int32.ofNat o)), .val (.int (Int32.ofNat len)), .val .null, .unset] [.int (Int32.ofNat len), .int (Int32.ofNat o), .ref b])) rfl (by rw [hml]; rfl) c7 (argsL := [.ref b, .int (Int32.ofNat o), .int (Int32.ofNat len)]) (rest := []) rfl rfl (by show 2 * 0 + 0 ≤ _; decide) (hb hbytes d36) (⟨rfl, hA.mv X5.warmed.alike hh5, l1, l2, hp⟩)
  obtain ⟨e8, z8⟩ := E8
  obtain ⟨rfl, N, n1, n2, n3, n4, n5, n6⟩ := NewArr.mv _ T5 s _ _ hh5.symm (Vm.Alike.refl _) rfl e8
  rw [hh5] at z8
  have hB1 := hB.keep X8.warmed.alike (n6 _ _ hB.1)
  have hne : s.heap.size ≠ a := (Nat.ne_of_lt (Array.getElem?_eq_some_iff.mp hB.1).1).symm
  have c9 : Steps p.tables e below (s₁.setTop (entryFrame m #[.ref a, .ref b, .int (Int32.ofNat o), .int (Int32.ofNat len), .null] 6)) (T8.setTop (mkF m 39 #[.val (.ref a), .val (.ref b), .val (.int (Int32.ofNat o)), .val (.int (Int32.ofNat len)), .val .null, .unset] [.ref s.heap.size])) := g8
  have c10 : Steps p.tables e below (s₁.setTop (entryFrame m #[.ref a, .ref b, .int (Int32.ofNat o), .int (Int32.ofNat len), .null] 6)) (T8.setTop (mkF m 45 #[.val (.ref a), .val (.ref b), .val (.int (Int32.ofNat o)), .val (.int (Int32.ofNat len)), .val .null, .val (.ref s.heap.size)] [.int (Int32.ofNat N.slots.size), .ref s.heap.size, .ref a])) := by
    have hc : Steps p.tables e below (s₁.setTop (entryFrame m #[.ref a, .ref b, .int (Int32.ofNat o), .int (Int32.ofNat len), .null] 6)) (T8.setTop (mkF m 45 #[.val (.ref a), .val (.ref b), .val (.int (Int32.ofNat o)), .val (.int (Int32.ofNat len)), .val .null, .val (.ref s.heap.size)] [.int (Int32.ofNat len), .ref s.heap.size, .ref a])) := c9.trans (by
      refine XS.astore X8.here hexec rfl (hb hbytes d39) rfl rfl rfl ?_
      refine XS.aloadN X8.here hexec rfl (hb hbytes d41) rfl rfl ?_
      refine XS.aload X8.here hexec rfl (hb hbytes d42) rfl rfl ?_
      refine XS.iloadN X8.here hexec rfl (hb hbytes d44) rfl ?_
      exact Steps.refl _)
    rw [n4]; exact hc
  obtain ⟨v11, T11, X11, E11, g11⟩ := X8.callS hexec (CodL.law l s.heap.size N) hown (wks W (staticW "java/lang/String" 47 CodL.yN)) (wk W CodL.tab) (W := 1) (Nat.le_of_ble_eq_true rfl) (Nat.le_of_ble_eq_true rfl) (Nat.le_refl _) (by show 0 + len + 0 ≤ len; omega) (g := (mkF m 45 #[.val (.ref a), .val (.ref b), .val (.int (Int32.ofNat o)), .val (.int (Int32.ofNat len)), .val .null, .val (.ref s.heap.size)] [.int (Int32.ofNat N.slots.size), .ref s.heap.size, .ref a])) rfl (by rw [hml]; rfl) c10 (argsL := [.ref s.heap.size, .int (Int32.ofNat N.slots.size)]) (rest := [.ref a]) rfl rfl (by show 2 * 0 + (1 + 0) ≤ _; decide) (hb hbytes d45) (⟨rfl, n1⟩)
  obtain ⟨rfl, q11⟩ := E11
  have hB11 := hB1.mv (X8.warmed.alike.symm.trans X11.warmed.alike) q11
  have c12 : Steps p.tables e below (s₁.setTop (entryFrame m #[.ref a, .ref b, .int (Int32.ofNat o), .int (Int32.ofNat len), .null] 6)) (T11.setTop (mkF m 48 #[.val (.ref a), .val (.ref b), .val (.int (Int32.ofNat o)), .val (.int (Int32.ofNat len)), .val .null, .val (.ref s.heap.size)] [.int 0, .ref a])) := g11
  obtain ⟨T13, X13, p13, bl13, sl13, st13⟩ := X11.finit hexec hown (wk W (.fieldLink "java/lang/String" 15 "java/lang/String" "coder" "B")) (Or.inr ⟨_, (wk W (.laysFinal "java/lang/String" "java/lang/String" "coder" "B"))⟩) (Or.inl ⟨rfl, hnm⟩) f2 (Or.inl rfl) hB11 (t := .byte) (by decide +kernel) rfl (g := (mkF m 48 #[.val (.ref a), .val (.ref b), .val (.int (Int32.ofNat o)), .val (.int (Int32.ofNat len)), .val .null, .val (.ref s.heap.size)] [.int 0, .ref a])) rfl (rest := []) rfl (hb hbytes d48)
  have c14 : Steps p.tables e below (s₁.setTop (entryFrame m #[.ref a, .ref b, .int (Int32.ofNat o), .int (Int32.ofNat len), .null] 6)) (T13.setTop (mkF m 54 #[.val (.ref a), .val (.ref b), .val (.int (Int32.ofNat o)), .val (.int (Int32.ofNat len)), .val .null, .val (.ref s.heap.size)] [.ref s.heap.size, .ref a])) := (c12.trans (st13 _ (Steps.refl _))).trans (by
    refine XS.aloadN X13.here hexec rfl (hb hbytes d51) rfl rfl ?_
    refine XS.aload X13.here hexec rfl (hb hbytes d52) rfl rfl ?_
    exact Steps.refl _)
  obtain ⟨T15, X15, p15, bl15, sl15, st15⟩ := X13.finit hexec hown (wk W (.fieldLink "java/lang/String" 9 "java/lang/String" "value" "[B")) (Or.inr ⟨_, (wk W (.laysFinal "java/lang/String" "java/lang/String" "value" "[B"))⟩) (Or.inl ⟨rfl, hnm⟩) f1 (Or.inl rfl) bl13 (t := (.array .byte)) (by decide +kernel) rfl (g := (mkF m 54 #[.val (.ref a), .val (.ref b), .val (.int (Int32.ofNat o)), .val (.int (Int32.ofNat len)), .val .null, .val (.ref s.heap.size)] [.ref s.heap.size, .ref a])) rfl (rest := []) rfl (hb hbytes d54)
  have c16 : Steps p.tables e below (s₁.setTop (entryFrame m #[.ref a, .ref b, .int (Int32.ofNat o), .int (Int32.ofNat len), .null] 6)) (T15.setTop (mkF m 57 #[.val (.ref a), .val (.ref b), .val (.int (Int32.ofNat o)), .val (.int (Int32.ofNat len)), .val .null, .val (.ref s.heap.size)] [])) := c14.trans (st15 _ (Steps.refl _))
  have ap := apart (Or.inr ⟨_, (wk W (.laysFinal "java/lang/String" "java/lang/String" "value" "[B"))⟩) (Or.inr ⟨_, (wk W (.laysFinal "java/lang/String" "java/lang/String" "coder" "B"))⟩) f1 f2 (t₁ := .array .byte) (t₂ := .byte) (by decide +kernel) (by decide +kernel) (by decide)
  have al := X8.warmed.alike.symm.trans X15.warmed.alike
  have n7 : T11.heap[s.heap.size]? = some N := by rw [q11]; exact n1.1
  exact ⟨T15, none, _, _, _, X15, by simp, rfl, by omega, (fun _ => rfl), ⟨rfl, _, N, bl15, ((Same.refl D _).set _ (by simp)).set _ (by simp), sl15, (Cell.slots_setSlot_ne _ ap).trans sl13, n1.keep al (p15.other hne (p13.other hne n7)), n2, by rw [al.findClass]; exact n3, n4, n5, fun y c h1 h2 => p15.other h1 (p13.other h1 (by rw [q11]; exact n6 y c h2)), by rw [p15.2.2, p13.2.2, q11]; exact z8⟩, fun fs hl => c16.trans (X15.returnOut hexec hret (hb hbytes d57) hl)⟩
end New4
namespace New1
def yN : MethodName := ⟨"java/lang/String", "<init>", "([C)V"⟩
abbrev yB : ByteArray := jdk_42_method_3_code
theorem d0 : decode yB 0 = .ok (.aload_n 0, 1) := by decide +kernel
theorem d1 : decode yB 1 = .ok (.aload_n 1, 1) := by decide +kernel
theorem d2 : decode yB 2 = .ok (.iconst 0, 1) := by decide +kernel
theorem d3 : decode yB 3 = .ok (.aload_n 1, 1) := by decide +kernel
theorem d4 : decode yB 4 = .ok (.arraylength, 1) := by decide +kernel
theorem d5 : decode yB 5 = .ok (.aconst_null, 1) := by decide +kernel
theorem d6 : decode yB 6 = .ok (.invokespecial 27, 3) := by decide +kernel
theorem d9 : decode yB 9 = .ok (.return_, 1) := by decide +kernel
def site : List Cond := [New4.tab] ++ initW "java/lang/String" 27 New4.yN
def tab : Cond := tabOf yN yB 2 none site
def P (a : Addr) (D : Cell) (fV fC : Field) (b : Addr) (A : Cell) (z : Int32) (args : Array Value) (s : State) : Prop := args = #[.ref a, .ref b] ∧ Blank "java/lang/String" a D s ∧ Found "java/lang/String" "value" "[B" fV s ∧ Found "java/lang/String" "coder" "B" fC s ∧ Ch b A s ∧ StaticIs s "java/lang/String" "COMPACT_STRINGS" "Z" (.int z) ∧ ¬ z = 0 ∧ 0 < A.slots.size ∧ A.slots.size ≤ 536870912 ∧ ∀ i, i < A.slots.size → ¬ 255 < cv A i
def E (a : Addr) (D : Cell) (fV fC : Field) (A : Cell) (r : Option Value) (s u : State) : Prop := Got a D fV fC A 0 A.slots.size r s u
/-- new String(chars), not empty, no char above 255: a Latin-1 String of their low bytes -/
theorem law (l : Launch) (a : Addr) (D : Cell) (fV fC : Field) (b : Addr) (A : Cell) (z : Int32) : Law l yN 2 1 3 52 yB 2 none site (P a D fV fC b A z) (E a D fV fC A) [⟨a, fC.slot⟩, ⟨a, fV.slot⟩] 1 A.slots.size := by
  refine Law.of_walk (plainFor_of_name (by decide +kernel)) (by decide +kernel) (by decide +kernel) (by decide) (fun _ _ h => by rw [h.1]; rfl) (fun _ U U' hal hh h => ⟨h.1, h.2.1.mv hal hh, h.2.2.1.al hal, h.2.2.2.1.al hal, h.2.2.2.2.1.mv hal hh, h.2.2.2.2.2.1.there hal hh, h.2.2.2.2.2.2⟩) (fun r U U' V V' h1 hal h2 h => Got.mv r U U' V V' h1 hal h2 h) ?_
  intro p e s m args below meth c s₁ X0 hexec hbytes hml hret hlk hnm hown hh0 W hP
  obtain ⟨rfl, hB, f1, f2, hA, s1, hz, l0, l2, hp⟩ := hP
  have c1 : Steps p.tables e below (s₁.setTop (entryFrame m #[.ref a, .ref b] 2)) (s₁.setTop (mkF m 0 #[.val (.ref a), .val (.ref b)] [])) := entry rfl
  have c2 : Steps p.tables e below (s₁.setTop (entryFrame m #[.ref a, .ref b] 2)) (s₁.setTop (mkF m 6 #[.val (.ref a), .val (.ref b)] [.null, .int (Int32.ofNat A.slots.size), .int 0, .ref b, .ref a])) := c1.trans (by
    refine XS.aloadN X0.here hexec rfl (hb hbytes d0) rfl rfl ?_
    refine XS.aloadN X0.here hexec rfl (hb hbytes d1) rfl rfl ?_
    refine iconstV X0.here hexec rfl 0 (hb hbytes d2) (by decide) ?_
    refine XS.aloadN X0.here hexec rfl (hb hbytes d3) rfl rfl ?_
    refine X0.alen hexec (hA.1.mv X0.warmed.alike hh0) rfl rfl (hb hbytes d4) ?_
    refine XS.aconstNull X0.here hexec rfl (hb hbytes d5) ?_
    exact Steps.refl _)
  obtain ⟨v3, T3, X3, E3, g3⟩ := X0.callN hexec (New4.law l a D fV fC b A z 0 A.slots.size) rfl hown (wks W (initW "java/lang/String" 27 New4.yN)) (W New4.tab (by simp only [site, List.mem_cons, List.mem_append, true_or, or_true])) (W := 0) (Nat.le_of_ble_eq_true rfl) (Nat.le_of_ble_eq_true rfl) (Nat.le_refl _) (by show 0 + A.slots.size ≤ A.slots.size; omega) (g := (mkF m 6 #[.val (.ref a), .val (.ref b)] [.null, .int (Int32.ofNat A.slots.size), .int (Int32.ofNat 0), .ref b, .ref a])) rfl (by rw [hml]; rfl) c2 (argsL := [.ref b, .int (Int32.ofNat 0), .int (Int32.ofNat A.slots.size), .null]) (rest := []) rfl rfl (by show 2 * 0 + 0 ≤ _; decide) (hb hbytes d6) (⟨rfl, hB.mv X0.warmed.alike hh0, f1.al X0.warmed.alike, f2.al X0.warmed.alike, hA.mv X0.warmed.alike hh0, s1.there X0.warmed.alike hh0, hz, l0, by omega, l2, fun i hi => by rw [Nat.zero_add]; exact hp i hi⟩)
  have e0 := Got.mv _ s₁ s _ _ hh0.symm (Vm.Alike.refl _) rfl E3
  obtain rfl := e0.1
  have c4 : Steps p.tables e below (s₁.setTop (entryFrame m #[.ref a, .ref b] 2)) (T3.setTop (mkF m 9 #[.val (.ref a), .val (.ref b)] [])) := g3
  exact ⟨T3, none, _, _, _, X3, by simp, rfl, by omega, (fun _ => rfl), e0, fun fs hl => c4.trans (X3.returnOut hexec hret (hb hbytes d9) hl)⟩
theorem pays {l : Launch} {R : Room} {p : Program} {e : Env} {below : List Frame} {s : State} {sargs : Array Value} {len W : Nat} (a : Addr) (D : Cell) (fV fC : Field) (b : Addr) (A : Cell) (z : Int32) (htab : tab.before sargs s = true) (hfr : 4 ≤ R.frames) (hlo : W + 65 ≤ R.locals) :
    Back l R p e below s sargs yN len W (fun A₁ a₁ => A₁.cells + 1 ≤ R.cells ∧ A₁.slots + A.slots.size ≤ R.slots ∧ P a D fV fC b A z a₁ A₁.U) (fun A₁ _ v₁ B₁ => E a D fV fC A v₁ A₁.U B₁.U ∧ B₁.locs = A₁.locs ++ [⟨a, fC.slot⟩, ⟨a, fV.slot⟩] ∧ B₁.cells = A₁.cells + 1 ∧ B₁.slots = A₁.slots + A.slots.size) :=
  (law l a D fV fC b A z).pays htab hfr (by omega)
end New1
/-- the byte, read back as charAt reads it, is the char -/
theorem lo8_mask {x : Int32} (h0 : ¬ x < 0) (h1 : ¬ 255 < x) : lo8 x &&& 255 = x := by
  have t : ∀ k : Fin 256, lo8 (Int32.ofNat k.val) &&& 255 = Int32.ofNat k.val := by decide +kernel
  rw [Int32.lt_iff_toInt_lt] at h0 h1
  have e0 : (0 : Int32).toInt = 0 := rfl
  have e1 : (255 : Int32).toInt = 255 := rfl
  obtain ⟨k, hk⟩ : ∃ k : Nat, x.toInt = k := ⟨x.toInt.toNat, by omega⟩
  have hx : x = Int32.ofNat k := Int32.toInt_inj.mp (by rw [hk, Int32.toInt_ofNat_small (by omega)])
  rw [hx]
  exact t ⟨k, by omega⟩
end StrChars
namespace StrChars.Road
open Jvm Sem ClassFile Op Lib Jvm.Stand Jvm.Free Jvm.Free.XT
open Jvm.Lib.Cold (StaticIs)
abbrev ST : String := "java/lang/String"
/-- every table word that New1's law asks, flat -/
abbrev words : List Jvm.Cond := [.code New1.yN New1.yB 2 none, .initialized ST, .methodLink ST 27 New4.yN, .instanceMethod New4.yN,
  .code New4.yN New4.yB 6 none, .fieldLink ST 38 ST "COMPACT_STRINGS" "Z", .laysFinal ST ST "value" "[B", .fieldLink ST 9 ST "value" "[B", .laysFinal ST ST "coder" "B", .fieldLink ST 15 ST "coder" "B",
  .methodLink ST 1 Lib.objectInit, .instanceMethod Lib.objectInit, .code Lib.objectInit ⟨#[0xb1]⟩ 1 none, .methodLink ST 177 Cmp3.yN, .static Cmp3.yN, .methodLink ST 47 CodL.yN, .static CodL.yN,
  .code Cmp3.yN Cmp3.yB 6 (some (.array .byte)), .initialized U16, .arrayClass .byte, .methodLink U16 115 Cmp5.yN, .static Cmp5.yN, .code Cmp5.yN Cmp5.yB 7 (some .int), .code CodL.yN CodL.yB 2 (some .byte)]
theorem tab_of {a : Array Value} {s : State} (h : ∀ w ∈ words, w.before a s = true) : New1.tab.before a s = true := by
  have h5 : Cmp5.tab.before a s = true := unparts (wk h (.code Cmp5.yN Cmp5.yB 7 (some .int))) (wks h (.initialized Cmp5.yN.cls :: Cmp5.site))
  have hc : CodL.tab.before a s = true := unparts (wk h (.code CodL.yN CodL.yB 2 (some .byte))) (wks h (.initialized CodL.yN.cls :: CodL.site))
  have q5 : ∀ w ∈ Cmp5.tab :: words, w.before a s = true := fun w hw => (List.mem_cons.mp hw).elim (fun e => e ▸ h5) (h w)
  have h3 : Cmp3.tab.before a s = true := unparts (wk q5 (.code Cmp3.yN Cmp3.yB 6 (some (.array .byte)))) (wks q5 (.initialized Cmp3.yN.cls :: Cmp3.site))
  have q3 : ∀ w ∈ Cmp3.tab :: CodL.tab :: words, w.before a s = true := fun w hw => (List.mem_cons.mp hw).elim (fun e => e ▸ h3) fun hw => (List.mem_cons.mp hw).elim (fun e => e ▸ hc) (h w)
  have h4 : New4.tab.before a s = true := unparts (wk q3 (.code New4.yN New4.yB 6 none)) (wks q3 (.initialized New4.yN.cls :: New4.site))
  have q4 : ∀ w ∈ New4.tab :: words, w.before a s = true := fun w hw => (List.mem_cons.mp hw).elim (fun e => e ▸ h4) (h w)
  exact unparts (wk q4 (.code New1.yN New1.yB 2 none)) (wks q4 (.initialized New1.yN.cls :: New1.site))
/-- the words ride from the start Z to the walk's own state -/
theorem moved {Z s : State} {a0 args : Array Value} (hZ : Z.Warmed39 s.vm) (hw : ∀ d ∈ words, d.before a0 Z = true) : ∀ d ∈ words, d.before args s = true := fun d hd => by
  have q := hw d hd
  have t : ∀ d ∈ words, d = .arrayClass .byte ∨ (d.onTables && d.keepsFace) = true := by decide +kernel
  rcases t d hd with rfl | t
  · exact RoadKit.mvA hZ q
  · exact RoadKit.mv hZ q t
/-- WHAT COMES BACK, over the tables of the start Z: h the heap at the call, h' behind it -/
def Q (Z : State) (x : Addr) (A : Cell) (h : Heap) (v : Option Value) (h' : Heap) (L : List Loc) : Prop := v = none ∧ (∀ y ∈ L, y.base = x) ∧ RoadKit.Keep h h' [x] ∧ h'.size = h.size + 1 ∧ RoadKit.Exa Z h' x ST ∧ RoadKit.Fld Z h' x ST "value" "[B" (.ref h.size) ∧ RoadKit.Fld Z h' x ST "coder" "B" (.int 0) ∧
  (∃ V : Cell, RoadKit.Arr Z h' h.size V .byte ∧ V.vm = .none ∧ Z.vm.findClass "[B" = some V.cls ∧ V.slots.size = A.slots.size ∧ ∀ j, j < A.slots.size → V.slots[j]? = some (.int (lo8 (cv A j)))) ∧
  ∀ (O n d : String) (w : Value), RoadKit.Fld Z h x O n d w → RoadKit.slotOf Z O n d ≠ RoadKit.slotOf Z ST "value" "[B" → RoadKit.slotOf Z O n d ≠ RoadKit.slotOf Z ST "coder" "B" → RoadKit.Fld Z h' x O n d w
/-- **new String(chars) AT A CALL, IN THE ROAD'S FORM**: for specialBack behind newO: x the fresh String, b the char[] with the cell A -/
theorem back {p : Program} {l : Launch} {e : Env} {R : Room} {s : State} {args : Array Value} {below : List Frame} {len W : Nat} {Z : State} {a0 : Array Value} {h : Heap} (hZ : Z.Warmed39 s.vm) (hw : ∀ d ∈ words, d.before a0 Z = true) {kI : Nat} (wi : (Jvm.Cond.instantiable ST kI).before a0 Z = true)
    {x b : Addr} {A : Cell} {z : Int32} {v0 c0 : Value} (E : RoadKit.Exa Z h x ST) (V : RoadKit.Fld Z h x ST "value" "[B" v0) (C : RoadKit.Fld Z h x ST "coder" "B" c0) (K : RoadKit.Arr Z h b A .char) (hty : Typed .char A) (S : RoadKit.Sta Z h ST "COMPACT_STRINGS" "Z" (.int z)) (hz : ¬ z = 0)
    (l0 : 0 < A.slots.size) (l2 : A.slots.size ≤ 536870912) (hp : ∀ i, i < A.slots.size → ¬ 255 < cv A i) (hfr : 4 ≤ R.frames) (hlo : W + 65 ≤ R.locals) :
    Back l R p e below s args New1.yN len W (fun P a => a = #[.ref x, .ref b] ∧ P.U.heap = h ∧ P.cells + 1 ≤ R.cells ∧ P.slots + A.slots.size ≤ R.slots)
      (fun P _ v B => ∃ L, Q Z x A h v B.U.heap L ∧ B.locs = P.locs ++ L ∧ B.cells = P.cells + 1 ∧ B.slots = P.slots + A.slots.size) := by
  intro m meth c P g ig mk a X hg hsize hdg hW hn hp'
  obtain ⟨rfl, rfl, r1, r2⟩ := hp'
  have al : Z.vm.Alike P.U.vm := hZ.alike.trans X.warmed.alike
  obtain ⟨D, cfV, kV, iV, fV, hD, gV, stV, knV, obV, asV, slV⟩ := id V
  obtain ⟨D', cfC, kC, iC, fC, hD', gC, stC, -, -, asC, slC⟩ := id C
  cases hD.symm.trans hD'
  obtain ⟨D2, kD, e1, e2, e3, e4, e5⟩ := id E
  cases hD.symm.trans e1
  obtain ⟨c2, k2, i1, i2, i3, -⟩ := Cond.instantiable_spec wi
  cases e2.symm.trans i1
  cases e3.symm.trans i2
  obtain ⟨kU, u1, u2⟩ := al.2.2 _ _ e3
  have hB : Blank ST x D P.U := ⟨hD, ⟨knV, fun q hq => by rw [hq] at obV; cases obV⟩, by rw [al.findClass]; exact e2, kU, u1, by rw [u2]; exact i3, by rw [u2]; exact e5 i3⟩
  have F1 : Found ST "value" "[B" fV P.U := ⟨SBG.found_only al ⟨cfV, kV, iV, gV⟩, stV⟩
  have F2 : Found ST "coder" "B" fC P.U := ⟨SBG.found_only al ⟨cfC, kC, iC, gC⟩, stC⟩
  have hA : Ch b A P.U := ⟨⟨K.1, State.isArrayOf_alike al K.2.1, K.2.2, by omega⟩, hty⟩
  have hS : StaticIs P.U ST "COMPACT_STRINGS" "Z" (.int z) := by
    obtain ⟨cfS, iS, kS, fS, st, cS, t1, t2, t3, t4, t5, t6, t7⟩ := S
    exact StaticIs.there (s := { Z with heap := P.U.heap }) ⟨cfS, iS, kS, fS, st, cS, t1, t2, t3, t4, t5, (fun q => by rw [q] at t6; cases t6), t7⟩ al rfl
  obtain ⟨v, B, X', ⟨⟨hv, E', V', q1, q2, q3, q4, q5, q6, q7, q8, q9, q10, q11⟩, hl, hc, hs⟩, st⟩ := New1.pays x D fV fC b A z (tab_of (moved hZ hw)) hfr hlo m meth c P g ig mk _ X hg hsize hdg hW hn ⟨r1, r2, rfl, hB, F1, F2, hA, hS, hz, l0, l2, hp⟩
  have al' : Z.vm.Alike B.U.vm := hZ.alike.trans X'.warmed.alike
  have hsz : E'.slots.size = D.slots.size := by
    obtain ⟨-, -, -, kB, w1, w2, w3⟩ := q1
    obtain ⟨kB', y1, y2⟩ := al'.2.2 _ _ e3
    rw [q2.2.1] at w1
    cases w1.symm.trans y1
    rw [w3, e5 i3, y2]
  refine ⟨v, B, X', ⟨_, ⟨hv, ?_, ⟨by omega, fun y cy hy hn' => q10 y cy (by simpa using hn') hy, fun y cy hy => ?_⟩, q11, ⟨E', _, q1.1, by rw [q2.2.1]; exact e2, by rw [q2.2.1]; exact e3, by rw [q2.1]; exact obV, fun _ => by rw [hsz]; exact e5 i3⟩,
    ⟨E', cfV, kV, iV, fV, q1.1, gV, stV, by rw [q2.1]; exact knV, by rw [q2.1]; exact obV, by rw [q2.2.1]; exact asV, q3⟩, ⟨E', cfC, kC, iC, fC, q1.1, gC, stC, by rw [q2.1]; exact knV, by rw [q2.1]; exact obV, by rw [q2.2.1]; exact asC, q4⟩,
    ⟨V', ⟨q5.1, State.isArrayOf_alike al'.symm q5.2.1, q5.2.2.1⟩, q6, by rw [← al'.findClass]; exact q7, q8, fun j hj => by have := q9 j hj; rwa [Nat.zero_add] at this⟩, fun O n d w F n1 n2 => ?_⟩, hl, hc, hs⟩, st⟩
  · intro y hy
    simp only [List.mem_cons, List.not_mem_nil, or_false] at hy
    rcases hy with rfl | rfl <;> rfl
  · by_cases q : y = x
    · subst q
      cases hD.symm.trans hy
      exact ⟨E', q1.1, q2.2.1, q2.1, hsz⟩
    · exact ⟨cy, q10 y cy q hy, rfl, rfl, rfl⟩
  · obtain ⟨D3, cf, k, i, f, g1, g2, g3, g4, g5, g6, g7⟩ := F
    cases hD.symm.trans g1
    simp only [RoadKit.slotOf, g2, gV, gC, Option.map_some, Option.getD_some] at n1 n2
    exact ⟨E', cf, k, i, f, q1.1, g2, g3, by rw [q2.1]; exact g4, by rw [q2.1]; exact g5, by rw [q2.2.1]; exact g6, by rw [q2.2.2 f.slot (by simp [n1, n2])]; exact g7⟩
end StrChars.Road
namespace StrChars.Road
open Jvm Sem ClassFile Op Lib Jvm.Stand Jvm.Free Jvm.Free.XT
/-- WHAT COMES BACK, the byte[] as a list of values -/
def QA (Z : State) (x : Addr) (zn : Int32) (cs : List Int32) (h : Heap) (v : Option Value) (h' : Heap) (L : List Loc) : Prop := v = none ∧ (∀ y ∈ L, y.base = x) ∧ RoadKit.Keep h h' [x] ∧ h'.size = h.size + 1 ∧ RoadKit.Exa Z h' x ST ∧ RoadKit.Fld Z h' x ST "value" "[B" (.ref h.size) ∧ RoadKit.Fld Z h' x ST "coder" "B" (.int 0) ∧
  (∃ kb, Z.vm.findClass "[B" = some kb ∧ RoadKit.Arv Z h' h.size kb .byte zn (cs.map fun c => .int (lo8 c)) (.int 0)) ∧
  ∀ (O n d : String) (w : Value), RoadKit.Fld Z h x O n d w → RoadKit.slotOf Z O n d ≠ RoadKit.slotOf Z ST "value" "[B" → RoadKit.slotOf Z O n d ≠ RoadKit.slotOf Z ST "coder" "B" → RoadKit.Fld Z h' x O n d w
/-- **new String(chars) AT A CALL, THE ARRAYS AS LISTS**: the char[] at b holds cs, not empty, no char above 255 -/
theorem backArv {p : Program} {l : Launch} {e : Env} {R : Room} {s : State} {args : Array Value} {below : List Frame} {len W : Nat} {Z : State} {a0 : Array Value} {h : Heap} (hZ : Z.Warmed39 s.vm) (hw : ∀ d ∈ words, d.before a0 Z = true) {kI : Nat} (wi : (Jvm.Cond.instantiable ST kI).before a0 Z = true)
    {x b : Addr} {k : ClassId} {zn z : Int32} {cs : List Int32} {dv v0 c0 : Value} (E : RoadKit.Exa Z h x ST) (V : RoadKit.Fld Z h x ST "value" "[B" v0) (C : RoadKit.Fld Z h x ST "coder" "B" c0) (K : RoadKit.Arv Z h b k .char zn (cs.map Value.int) dv) (S : RoadKit.Sta Z h ST "COMPACT_STRINGS" "Z" (.int z)) (hz : ¬ z = 0)
    (hlen : zn.toNatClampNeg = cs.length) (h0 : 0 < cs.length) (hbig : cs.length ≤ 536870912) (hall : ∀ c ∈ cs, ¬ 255 < c) (hfr : 4 ≤ R.frames) (hlo : W + 65 ≤ R.locals) :
    Back l R p e below s args New1.yN len W (fun P a => a = #[.ref x, .ref b] ∧ P.U.heap = h ∧ P.cells + 1 ≤ R.cells ∧ P.slots + cs.length ≤ R.slots)
      (fun P _ v B => ∃ L, QA Z x zn cs h v B.U.heap L ∧ B.locs = P.locs ++ L ∧ B.cells = P.cells + 1 ∧ B.slots = P.slots + cs.length) := by
  obtain ⟨A, K1, K2, K3, K4, K5, K6⟩ := K
  have e : A.slots.size = cs.length := K3.trans hlen
  have hat : ∀ (i : Nat) (hi : i < cs.length), A.slots[i]? = some (.int cs[i]) := fun i hi => by rw [K5 i (by omega)]; simp [List.getD_eq_getElem?_getD, hi]
  have hcv : ∀ (i : Nat) (hi : i < cs.length), cv A i = cs[i] := fun i hi => by unfold cv; rw [hat i hi]
  have hty : Typed .char A := fun i v hv => by
    have hi : i < A.slots.size := (Array.getElem?_eq_some_iff.mp hv).1
    have q := K5 i hi
    rw [hv] at q
    rw [Option.some.inj q]
    exact K6 i hi
  refine Back.mono (back hZ hw wi E V C K1 hty S hz (by omega) (by omega) (fun i hi => by rw [hcv i (by omega)]; exact hall _ (List.getElem_mem _)) hfr hlo) (fun P a hp => ⟨hp.1, hp.2.1, hp.2.2.1, by rw [e]; exact hp.2.2.2⟩) (fun P a v B hp hq => ?_)
  obtain ⟨L, ⟨q1, q2, q3, q4, q5, q6, q7, ⟨V', v1, v2, v3, v4, v5⟩, q9⟩, hl, hc, hs⟩ := hq
  refine ⟨L, ⟨q1, q2, q3, q4, q5, q6, q7, ⟨V'.cls, v3, V', v1, rfl, by rw [v4, e, hlen], K4, fun i hi => ?_, fun i hi => ?_⟩, q9⟩, hl, hc, by rw [hs, e]⟩
  · have hi' : i < cs.length := by omega
    rw [v5 i (by omega), hcv i hi']; simp [List.getD_eq_getElem?_getD, hi']
  · have hi' : i < cs.length := by omega
    simp only [List.getD_eq_getElem?_getD, List.getElem?_map, List.getElem?_eq_getElem hi', Option.map_some, Option.getD_some]
    exact fits_lo8 _
end StrChars.Road
namespace StrChars.Road
open Jvm Sem ClassFile Op Lib Jvm.Stand Jvm.Free Jvm.Free.XT
/-- WHAT COMES BACK, in the writer's own shape -/
def QV (Z : State) (x : Addr) (N : Int32) (bs : List Int32) (h : Heap) (n0 : Nat) (v : Option Value) (h' : Heap) (L : List Loc) : Prop := v = none ∧ RoadKit.Fr n0 L ∧ RoadKit.Keep h h' [x] ∧ RoadKit.Exa Z h' x ST ∧ RoadKit.Fld Z h' x ST "coder" "B" (.int 0) ∧
  ∃ (t : Addr) (kb : ClassId), n0 ≤ t ∧ h.size ≤ t ∧ ¬ t = x ∧ RoadKit.Fld Z h' x ST "value" "[B" (.ref t) ∧ RoadKit.Arv Z h' t kb .byte N (bs.map Value.int) (.int 0)
/-- **new String(chars) AT A CALL, FOR THE WRITER**: a char[] of n known ints, each 0 to 255 -/
theorem backV {p : Program} {l : Launch} {e : Env} {R : Room} {s : State} {args : Array Value} {below : List Frame} {len W : Nat} {Z : State} {a0 : Array Value} {h : Heap} (hZ : Z.Warmed39 s.vm) (hw : ∀ d ∈ words, d.before a0 Z = true) {kI : Nat} (wi : (Jvm.Cond.instantiable ST kI).before a0 Z = true)
    {x b : Addr} {kC : ClassId} {cs bs : List Int32} {d v0 c0 : Value} {z N : Int32} {n n0 : Nat} (hx0 : n0 ≤ x) (hh0 : n0 ≤ h.size) (E : RoadKit.Exa Z h x ST) (V : RoadKit.Fld Z h x ST "value" "[B" v0) (C : RoadKit.Fld Z h x ST "coder" "B" c0) (K : RoadKit.Arv Z h b kC .char N (cs.map Value.int) d) (S : RoadKit.Sta Z h ST "COMPACT_STRINGS" "Z" (.int z)) (hz : ¬ z = 0)
    (hn : cs.length = n) (hN : N = Int32.ofNat n) (l0 : 0 < n) (l2 : n ≤ 4000) (hp : ∀ c ∈ cs, ¬ c < 0 ∧ ¬ (255 : Int32) < c) (hb : bs = cs.map (fun c => c.toInt8.toInt32)) (hfr : 4 ≤ R.frames) (hlo : W + 65 ≤ R.locals) :
    Back l R p e below s args (⟨"java/lang/String", "<init>", "([C)V"⟩ : MethodName) len W (fun P a => a = #[.ref x, .ref b] ∧ P.U.heap = h ∧ P.cells + 1 ≤ R.cells ∧ P.slots + n ≤ R.slots)
      (fun P _ v B => ∃ L, QV Z x N bs h n0 v B.U.heap L ∧ B.locs = P.locs ++ L ∧ B.cells = P.cells + 1 ∧ B.slots = P.slots + n) := by
  subst hn hN hb
  refine Back.mono (backArv hZ hw wi E V C K S hz (n32 (by omega)) l0 (by omega) (fun c hc => (hp c hc).2) hfr hlo) (fun P a hp => hp) (fun P a v B hp hq => ?_)
  obtain ⟨L, ⟨q1, q2, q3, q4, q5, q6, q7, ⟨kb, v1, v2⟩, q9⟩, hl, hc, hs⟩ := hq
  exact ⟨L, ⟨q1, fun y hy => by rw [q2 y hy]; exact hx0, q3, q5, q7, h.size, kb, hh0, Nat.le_refl _, Nat.ne_of_gt E.lt, q6, by rw [List.map_map]; exact v2⟩, hl, hc, hs⟩
end StrChars.Road
namespace StrChars
open Jvm Sem ClassFile Op Lib Jvm.Stand Jvm.Free.XT Jvm.Free.ALB Jvm.Free.JM Jvm.Free
open Jvm.Lib.Cold (StaticIs)
def hi8 (x : Int32) : Int32 := lo8 (x >>> ((8 : Int32) &&& 31))
/-- what StringUTF16.getChar makes of two bytes -/
def pairCh (u v : Int32) : Int32 := (((u &&& 255) <<< ((0 : Int32) &&& 31)) ||| ((v &&& 255) <<< ((8 : Int32) &&& 31))).toUInt32.toUInt16.toUInt32.toInt32
theorem lo8_and (x : Int32) : (lo8 x &&& 255).toBitVec.toNat = x.toBitVec.toNat % 256 := by
  have h : (lo8 x).toBitVec = (x.toBitVec.signExtend 8).signExtend 32 := by rw [lo8, Int8.toBitVec_toInt32, Int32.toBitVec_toInt8]
  rw [Int32.toBitVec_and, BitVec.toNat_and, h]
  have e : ((x.toBitVec.signExtend 8).signExtend 32).toNat % 256 = x.toBitVec.toNat % 256 := by
    rw [BitVec.toNat_signExtend]
    have hlt := x.toBitVec.isLt
    simp only [BitVec.toNat_setWidth, BitVec.toNat_signExtend]
    split <;> split <;> omega
  rw [← e]
  exact Nat.and_two_pow_sub_one_eq_mod _ 8
theorem pair_says {c : Int32} (h0 : ¬ c < 0) (h1 : ¬ 65535 < c) : pairCh (lo8 c) (hi8 c) = c := by
  rw [Int32.lt_iff_toInt_lt] at h0 h1
  have e0 : (0 : Int32).toInt = 0 := rfl
  have e1 : (65535 : Int32).toInt = 65535 := rfl
  have hc : c.toInt = c.toBitVec.toNat := by
    have := c.toBitVec.isLt
    have e : c.toInt = c.toBitVec.toInt := rfl
    rw [e] at h0 h1
    rw [e]
    rw [BitVec.toInt_eq_toNat_cond] at h0 h1 ⊢
    split at h0 <;> split <;> omega
  have hn : c.toBitVec.toNat < 65536 := by omega
  have a1 := lo8_and c
  have a2 : (hi8 c &&& 255).toBitVec.toNat = c.toBitVec.toNat / 256 := by
    rw [hi8, lo8_and]
    have e : ((8 : Int32) &&& 31) = 8 := by decide
    rw [e, Int32.toBitVec_shiftRight]
    have e2 : ((8 : Int32).toBitVec.smod 32) = 8#32 := by decide
    rw [e2, BitVec.sshiftRight_eq', BitVec.toNat_sshiftRight_of_msb_false (by rw [BitVec.msb_eq_false_iff_two_mul_lt]; omega)]
    show c.toBitVec.toNat >>> 8 % 256 = _
    rw [Nat.shiftRight_eq_div_pow]
    omega
  unfold pairCh
  apply Int32.toBitVec_inj.mp
  apply BitVec.eq_of_toNat_eq
  have f0 : ((0 : Int32) &&& 31) = 0 := by decide
  have f8 : ((8 : Int32) &&& 31) = 8 := by decide
  rw [f0, f8]
  have g : (((lo8 c &&& 255) <<< (0 : Int32)) ||| ((hi8 c &&& 255) <<< (8 : Int32))).toBitVec.toNat = c.toBitVec.toNat := by
    rw [Int32.toBitVec_or, Int32.toBitVec_shiftLeft, Int32.toBitVec_shiftLeft]
    have s0 : ((0 : Int32).toBitVec.smod 32) = 0#32 := by decide
    have s8 : ((8 : Int32).toBitVec.smod 32) = 8#32 := by decide
    rw [s0, s8, BitVec.toNat_or]
    simp only [BitVec.shiftLeft_eq', BitVec.toNat_shiftLeft, a1, a2]
    show (c.toBitVec.toNat % 256) <<< 0 % 2 ^ 32 ||| (c.toBitVec.toNat / 256) <<< 8 % 2 ^ 32 = _
    rw [Nat.shiftLeft_zero, Nat.mod_eq_of_lt (show c.toBitVec.toNat % 256 < 2 ^ 32 by omega), Nat.mod_eq_of_lt (show (c.toBitVec.toNat / 256) <<< 8 < 2 ^ 32 by rw [Nat.shiftLeft_eq]; omega), Nat.or_comm, ← Nat.shiftLeft_add_eq_or_of_lt (by omega), Nat.shiftLeft_eq]
    omega
  show BitVec.toNat (((((lo8 c &&& 255) <<< (0 : Int32)) ||| ((hi8 c &&& 255) <<< (8 : Int32))).toBitVec.setWidth 16).setWidth 32) = _
  rw [BitVec.toNat_setWidth, BitVec.toNat_setWidth, g]
  omega
end StrChars
namespace StrChars
open Jvm Sem ClassFile Op Lib Jvm.Stand Jvm.Free.XT Jvm.Free.ALB Jvm.Free.JM Jvm.Free
open Jvm.Lib.Cold (StaticIs)
/-- the array's cell V codes the n chars f 0 .. f (n - 1) by the coder cd, as the JDK does: coder 1 just where some char is above 255 -/
def Cod (cd : Int32) (n : Nat) (f : Nat → Int32) (V : Cell) : Prop := (cd = 0 ∧ V.slots.size = n ∧ ∀ j, j < n → V.slots[j]? = some (.int (lo8 (f j))) ∧ ¬ 255 < f j) ∨ (cd = 1 ∧ V.slots.size = 2 * n ∧ (∀ j, j < n → V.slots[2 * j]? = some (.int (lo8 (f j))) ∧ V.slots[2 * j + 1]? = some (.int (hi8 (f j)))) ∧ ∃ j, j < n ∧ 255 < f j)
/-- **x is a String of the n chars f 0 .. f (n - 1)**, Latin-1 or UTF-16; its array at t has the cell V -/
def Txt (x t : Addr) (V : Cell) (cd : Int32) (n : Nat) (f : Nat → Int32) (U : State) : Prop := Exact "java/lang/String" x U ∧ Has x "java/lang/String" "value" "[B" (.ref t) U ∧ Has x "java/lang/String" "coder" "B" (.int cd) U ∧ XT.Arr .byte t V U ∧ Cod cd n f V ∧ ∀ j, j < n → ¬ f j < 0 ∧ ¬ 65535 < f j
theorem Txt.mv {x t : Addr} {V : Cell} {cd : Int32} {n : Nat} {f : Nat → Int32} {U U' : State} (h : Txt x t V cd n f U) (hal : U.vm.Alike U'.vm) (hh : U'.heap = U.heap) : Txt x t V cd n f U' := ⟨h.1.mv hal hh, h.2.1.mv hal hh, h.2.2.1.mv hal hh, h.2.2.2.1.mv hal hh, h.2.2.2.2⟩
end StrChars
namespace StrChars.Road
open Jvm Sem ClassFile Op Lib Jvm.Stand Jvm.Free Jvm.Free.XT
open Jvm.Lib.Cold (StaticIs)
theorem consq {a : Array Value} {s : State} {c : Jvm.Cond} {L : List Jvm.Cond} (h0 : c.before a s = true) (h : ∀ w ∈ L, w.before a s = true) : ∀ w ∈ c :: L, w.before a s = true := fun w hw => (List.mem_cons.mp hw).elim (fun e => e ▸ h0) (h w)
/-- the bytes of the chars cs, low before high -/
def wideBytes : List Int32 → List Value
  | [] => []
  | c :: cs => .int (lo8 c) :: .int (hi8 c) :: wideBytes cs
theorem wide_lo (d : Value) : ∀ (cs : List Int32) (j : Nat), j < cs.length → (wideBytes cs).getD (2 * j) d = .int (lo8 (cs.getD j 0))
  | [], j, h => absurd h (Nat.not_lt_zero j)
  | c :: cs, 0, _ => rfl
  | c :: cs, j + 1, h => by
    have q := wide_lo d cs j (by simpa using h)
    rw [show 2 * (j + 1) = 2 * j + 1 + 1 from by omega]
    simpa [wideBytes] using q
theorem wide_hi (d : Value) : ∀ (cs : List Int32) (j : Nat), j < cs.length → (wideBytes cs).getD (2 * j + 1) d = .int (hi8 (cs.getD j 0))
  | [], j, h => absurd h (Nat.not_lt_zero j)
  | c :: cs, 0, _ => rfl
  | c :: cs, j + 1, h => by
    have q := wide_hi d cs j (by simpa using h)
    rw [show 2 * (j + 1) + 1 = 2 * j + 1 + 1 + 1 from by omega]
    simpa [wideBytes] using q
theorem low_at (d : Value) (cs : List Int32) (j : Nat) (h : j < cs.length) : (cs.map fun c => Value.int (lo8 c)).getD j d = .int (lo8 (cs.getD j 0)) := by
  simp [List.getD_eq_getElem?_getD, h]
/-- an array of N2 bytes vs codes the chars cs by the coder cd -/
def CodA (cs : List Int32) (cd N2 : Int32) (vs : List Value) : Prop := (cd = 0 ∧ N2 = Int32.ofNat cs.length ∧ vs = (cs.map fun c => Value.int (lo8 c)) ∧ ∀ c ∈ cs, ¬ 255 < c) ∨ (cd = 1 ∧ N2 = Int32.ofNat (2 * cs.length) ∧ vs = wideBytes cs ∧ ∃ c ∈ cs, 255 < c)
theorem CodA.cod {cs : List Int32} {cd N2 : Int32} {vs : List Value} {V : Cell} (h : CodA cs cd N2 vs) (hn : 2 * cs.length < 2 ^ 31) (hs : V.slots.size = N2.toNatClampNeg) (hv : RoadKit.Has V vs (.int 0)) : Cod cd cs.length (fun j => cs.getD j 0) V := by
  rcases h with ⟨rfl, rfl, rfl, h⟩ | ⟨rfl, rfl, rfl, c, hc, hw⟩
  · rw [n32 (by omega)] at hs
    exact Or.inl ⟨rfl, hs, fun j hj => ⟨by rw [hv j (by omega), low_at _ _ _ hj], by
      have e : cs.getD j 0 = cs[j] := by simp [List.getD_eq_getElem?_getD, hj]
      show ¬ 255 < cs.getD j 0
      rw [e]; exact h _ (List.getElem_mem _)⟩⟩
  · rw [n32 (by omega)] at hs
    obtain ⟨j, hj, rfl⟩ := List.getElem_of_mem hc
    exact Or.inr ⟨rfl, hs, fun j hj => ⟨by rw [hv _ (by omega), wide_lo _ _ _ hj], by rw [hv _ (by omega), wide_hi _ _ _ hj]⟩, j, hj, by
      have e : cs.getD j 0 = cs[j] := by simp [List.getD_eq_getElem?_getD, hj]
      show 255 < cs.getD j 0
      rw [e]; exact hw⟩
/-- an object of exactly java/lang/String, its two fields found: as the laws ask it -/
theorem strObj {Z U : State} {a0 : Array Value} {kI : Nat} (wi : (Jvm.Cond.instantiable ST kI).before a0 Z = true) (al : Z.vm.Alike U.vm) {x : Addr} {v0 c0 : Value} (E : RoadKit.Exa Z U.heap x ST) (V : RoadKit.Fld Z U.heap x ST "value" "[B" v0) (C : RoadKit.Fld Z U.heap x ST "coder" "B" c0) :
    ∃ (D : Cell) (fV fC : Field), Blank ST x D U ∧ Found ST "value" "[B" fV U ∧ Found ST "coder" "B" fC U ∧ D.slots[fV.slot]? = some v0 ∧ D.slots[fC.slot]? = some c0 ∧ RoadKit.slotOf Z ST "value" "[B" = fV.slot ∧ RoadKit.slotOf Z ST "coder" "B" = fC.slot := by
  obtain ⟨D, cfV, kV, iV, fV, hD, gV, stV, knV, obV, asV, slV⟩ := V
  obtain ⟨D', cfC, kC, iC, fC, hD', gC, stC, -, -, asC, slC⟩ := C
  cases hD.symm.trans hD'
  obtain ⟨D2, kD, e1, e2, e3, e4, e5⟩ := E
  cases hD.symm.trans e1
  obtain ⟨c2, k2, i1, i2, i3, -⟩ := Cond.instantiable_spec wi
  cases e2.symm.trans i1
  cases e3.symm.trans i2
  obtain ⟨kU, u1, u2⟩ := al.2.2 _ _ e3
  exact ⟨D, fV, fC, ⟨hD, ⟨knV, fun q hq => by rw [hq] at obV; cases obV⟩, by rw [al.findClass]; exact e2, kU, u1, by rw [u2]; exact i3, by rw [u2]; exact e5 i3⟩, ⟨SBG.found_only al ⟨cfV, kV, iV, gV⟩, stV⟩, ⟨SBG.found_only al ⟨cfC, kC, iC, gC⟩, stC⟩, slV, slC, by simp [RoadKit.slotOf, gV], by simp [RoadKit.slotOf, gC]⟩
theorem sta_is {Z U : State} (al : Z.vm.Alike U.vm) {C n d : String} {v : Value} (S : RoadKit.Sta Z U.heap C n d v) : StaticIs U C n d v := by
  obtain ⟨cfS, iS, kS, fS, st, cS, t1, t2, t3, t4, t5, t6, t7⟩ := S
  exact StaticIs.there (s := { Z with heap := U.heap }) ⟨cfS, iS, kS, fS, st, cS, t1, t2, t3, t4, t5, (fun q => by rw [q] at t6; cases t6), t7⟩ al rfl
end StrChars.Road
namespace StrChars
open Jvm Sem ClassFile Op Lib Jvm.Stand Jvm.Free.XT Jvm.Free.ALB Jvm.Free.JM Jvm.Free
open Jvm.Lib.Cold (StaticIs)
/-- what place i of a byte[]'s cell holds -/
def yv (A : Cell) (i : Nat) : Int32 := match A.slots[i]? with | some (.int x) => x | _ => 0
theorem yv_get {a : Addr} {A : Cell} {U : State} (h : XT.Arr .byte a A U) (ht : Typed .byte A) {i : Nat} (hi : i < A.slots.size) : A.slots[i]? = some (.int (yv A i)) := by
  have e := Array.getElem?_eq_getElem hi
  have f := ht i _ e
  unfold yv; rw [e]
  generalize A.slots[i] = v at f
  cases v <;> simp [fits] at f ⊢
/-- the two arrays are equal, place for place -/
def EqC (A B : Cell) : Prop := A.slots.size = B.slots.size ∧ ∀ i, i < A.slots.size → yv A i = yv B i
/-- a boolean that says whether p -/
def Says01 (q : Prop) (r : Option Value) (s u : State) : Prop := ∃ v : Int32, r = some (.int v) ∧ u.heap = s.heap ∧ ((v = 1 ∧ q) ∨ (v = 0 ∧ ¬ q))
theorem Says01.mv {q : Prop} : ∀ r (U U' V V' : State), U'.heap = U.heap → V.vm.Alike V'.vm → V'.heap = V.heap → Says01 q r U V → Says01 q r U' V' :=
  fun r U U' V V' h1 _ h2 ⟨v, a, b, c⟩ => ⟨v, a, by rw [h1, h2]; exact b, c⟩
namespace LEq
def yN : MethodName := ⟨"java/lang/StringLatin1", "equals", "([B[B)Z"⟩
abbrev yB : ByteArray := jdk_43_method_13_code
theorem d0 : decode yB 0 = .ok (.aload_n 0, 1) := by decide +kernel
theorem d1 : decode yB 1 = .ok (.arraylength, 1) := by decide +kernel
theorem d2 : decode yB 2 = .ok (.aload_n 1, 1) := by decide +kernel
theorem d3 : decode yB 3 = .ok (.arraylength, 1) := by decide +kernel
theorem d4 : decode yB 4 = .ok (.if_icmp (.ne) 30, 3) := by decide +kernel
theorem d7 : decode yB 7 = .ok (.iconst 0, 1) := by decide +kernel
theorem d8 : decode yB 8 = .ok (.istore_n 2, 1) := by decide +kernel
theorem d9 : decode yB 9 = .ok (.iload_n 2, 1) := by decide +kernel
theorem d10 : decode yB 10 = .ok (.aload_n 0, 1) := by decide +kernel
theorem d11 : decode yB 11 = .ok (.arraylength, 1) := by decide +kernel
theorem d12 : decode yB 12 = .ok (.if_icmp (.ge) 20, 3) := by decide +kernel
theorem d15 : decode yB 15 = .ok (.aload_n 0, 1) := by decide +kernel
theorem d16 : decode yB 16 = .ok (.iload_n 2, 1) := by decide +kernel
theorem d17 : decode yB 17 = .ok (.baload, 1) := by decide +kernel
theorem d18 : decode yB 18 = .ok (.aload_n 1, 1) := by decide +kernel
theorem d19 : decode yB 19 = .ok (.iload_n 2, 1) := by decide +kernel
theorem d20 : decode yB 20 = .ok (.baload, 1) := by decide +kernel
theorem d21 : decode yB 21 = .ok (.if_icmp (.eq) 5, 3) := by decide +kernel
theorem d24 : decode yB 24 = .ok (.iconst 0, 1) := by decide +kernel
theorem d25 : decode yB 25 = .ok (.ireturn, 1) := by decide +kernel
theorem d26 : decode yB 26 = .ok (.iinc 2 1, 3) := by decide +kernel
theorem d29 : decode yB 29 = .ok (.goto (-20), 3) := by decide +kernel
theorem d32 : decode yB 32 = .ok (.iconst 1, 1) := by decide +kernel
theorem d33 : decode yB 33 = .ok (.ireturn, 1) := by decide +kernel
theorem d34 : decode yB 34 = .ok (.iconst 0, 1) := by decide +kernel
theorem d35 : decode yB 35 = .ok (.ireturn, 1) := by decide +kernel
def site : List Cond := []
def tab : Cond := tabOf yN yB 3 (some .boolean) site
def P (a : Addr) (A : Cell) (b : Addr) (B : Cell) (args : Array Value) (s : State) : Prop := args = #[.ref a, .ref b] ∧ XT.Arr .byte a A s ∧ Typed .byte A ∧ XT.Arr .byte b B s ∧ Typed .byte B
/-- whether two byte[] are equal, place for place -/
theorem law (l : Launch) (a : Addr) (A : Cell) (b : Addr) (B : Cell) : Law l yN 2 2 0 0 yB 3 (some .boolean) site (P a A b B) (Says01 (EqC A B)) [] 0 0 := by
  refine Law.of_walk (plainFor_of_name (by decide +kernel)) (by decide +kernel) (by decide +kernel) (by decide) (fun _ _ h => by rw [h.1]; rfl) (fun _ U U' hal hh h => ⟨h.1, h.2.1.mv hal hh, h.2.2.1, h.2.2.2.1.mv hal hh, h.2.2.2.2⟩) (fun r U U' V V' h1 hal h2 h => Says01.mv r U U' V V' h1 hal h2 h) ?_
  intro p e s m args below meth c s₁ X0 hexec hbytes hml hret hlk hnm hown hh0 W hP
  obtain ⟨rfl, hA, tA, hB, tB⟩ := hP
  have a31 := hA.2.2.2
  have b31 := hB.2.2.2
  have hA0 := hA.mv X0.warmed.alike hh0
  have hB0 := hB.mv X0.warmed.alike hh0
  have c1 : Steps p.tables e below (s₁.setTop (entryFrame m #[.ref a, .ref b] 3)) (s₁.setTop (mkF m 0 #[.val (.ref a), .val (.ref b), .unset] [])) := entry rfl
  have c2 : Steps p.tables e below (s₁.setTop (entryFrame m #[.ref a, .ref b] 3)) (s₁.setTop (mkF m 4 #[.val (.ref a), .val (.ref b), .unset] [.int (Int32.ofNat B.slots.size), .int (Int32.ofNat A.slots.size)])) := c1.trans (by
    refine XS.aloadN X0.here hexec rfl (hb hbytes d0) rfl rfl ?_
    refine X0.alen hexec hA0 rfl rfl (hb hbytes d1) ?_
    refine XS.aloadN X0.here hexec rfl (hb hbytes d2) rfl rfl ?_
    refine X0.alen hexec hB0 rfl rfl (hb hbytes d3) ?_
    exact Steps.refl _)
  by_cases hs : A.slots.size = B.slots.size
  · have c3 : Steps p.tables e below (s₁.setTop (entryFrame m #[.ref a, .ref b] 3)) (s₁.setTop (mkF m 9 #[.val (.ref a), .val (.ref b), .val (.int 0)] [])) := c2.trans (by
      refine XS.icmpNo X0.here hexec rfl (hb hbytes d4) rfl (ii_ne_f (by rw [hs])) ?_
      refine iconstV X0.here hexec rfl 0 (hb hbytes d7) (by decide) ?_
      refine XS.istoreN X0.here hexec rfl (hb hbytes d8) rfl rfl ?_
      exact Steps.refl _)
    have loop : ∀ (r i : Nat), i + r = A.slots.size → (∀ j, j < i → yv A j = yv B j) → Steps p.tables e below (s₁.setTop (entryFrame m #[.ref a, .ref b] 3)) (s₁.setTop (mkF m 9 #[.val (.ref a), .val (.ref b), .val (.int (Int32.ofNat i))] [])) → ∃ (pc : Nat) (Ls : Array Slot) (v : Int32), (pc = 25 ∨ pc = 33) ∧ ((v = 1 ∧ EqC A B) ∨ (v = 0 ∧ ¬ EqC A B)) ∧ Steps p.tables e below (s₁.setTop (entryFrame m #[.ref a, .ref b] 3)) (s₁.setTop (mkF m pc Ls [.int v])) := by
      intro r
      induction r with
      | zero =>
        intro i hi he cl
        exact ⟨33, _, 1, Or.inr rfl, Or.inl ⟨rfl, hs, fun j hj => he j (by omega)⟩, cl.trans (by
          refine XS.iloadN X0.here hexec rfl (hb hbytes d9) rfl ?_
          refine XS.aloadN X0.here hexec rfl (hb hbytes d10) rfl rfl ?_
          refine X0.alen hexec hA0 rfl rfl (hb hbytes d11) ?_
          refine XS.icmpYes X0.here hexec rfl (pc0 := 12) rfl (hb hbytes d12) rfl (ii_ge_t (nlt32 (by omega) (by omega))) (by decide) rfl ?_
          refine iconstV X0.here hexec rfl 1 (hb hbytes d32) (by decide) ?_
          exact Steps.refl _)⟩
      | succ r ih =>
        intro i hi he cl
        have c4 : Steps p.tables e below (s₁.setTop (entryFrame m #[.ref a, .ref b] 3)) (s₁.setTop (mkF m 21 #[.val (.ref a), .val (.ref b), .val (.int (Int32.ofNat i))] [.int (yv B i), .int (yv A i)])) := cl.trans (by
          refine XS.iloadN X0.here hexec rfl (hb hbytes d9) rfl ?_
          refine XS.aloadN X0.here hexec rfl (hb hbytes d10) rfl rfl ?_
          refine X0.alen hexec hA0 rfl rfl (hb hbytes d11) ?_
          refine XS.icmpNo X0.here hexec rfl (hb hbytes d12) rfl (ii_ge_f (lt32 (by omega) (by omega))) ?_
          refine XS.aloadN X0.here hexec rfl (hb hbytes d15) rfl rfl ?_
          refine XS.iloadN X0.here hexec rfl (hb hbytes d16) rfl ?_
          refine X0.aget hexec hA0 rfl (yv_get hA tA (i := i) (by omega)) rfl rfl (hb hbytes d17) ?_
          refine XS.aloadN X0.here hexec rfl (hb hbytes d18) rfl rfl ?_
          refine XS.iloadN X0.here hexec rfl (hb hbytes d19) rfl ?_
          refine X0.aget hexec hB0 rfl (yv_get hB tB (i := i) (by omega)) rfl rfl (hb hbytes d20) ?_
          exact Steps.refl _)
        by_cases hv : yv A i = yv B i
        · have c5 : Steps p.tables e below (s₁.setTop (entryFrame m #[.ref a, .ref b] 3)) (s₁.setTop (mkF m 9 #[.val (.ref a), .val (.ref b), .val (.int (Int32.ofNat i + 1))] [])) := c4.trans (by
            refine XS.icmpYes X0.here hexec rfl (pc0 := 21) rfl (hb hbytes d21) rfl (ii_eq_t hv) (by decide) rfl ?_
            refine iincV X0.here hexec rfl 1 (hb hbytes d26) (by decide) rfl rfl ?_
            refine XS.goto X0.here hexec rfl (pc0 := 29) rfl (hb hbytes d29) (by decide) rfl ?_
            exact Steps.refl _)
          rw [succ32] at c5
          exact ih (i + 1) (by omega) (fun j hj => by
            by_cases e : j = i
            · rw [e]; exact hv
            · exact he j (by omega)) c5
        · exact ⟨25, _, 0, Or.inl rfl, Or.inr ⟨rfl, fun q => hv (q.2 i (by omega))⟩, c4.trans (by
            refine XS.icmpNo X0.here hexec rfl (hb hbytes d21) rfl (ii_eq_f hv) ?_
            refine iconstV X0.here hexec rfl 0 (hb hbytes d24) (by decide) ?_
            exact Steps.refl _)⟩
    obtain ⟨pc, Ls, v, hpc, hv, cz⟩ := loop A.slots.size 0 (by omega) (fun j hj => absurd hj (Nat.not_lt_zero j)) c3
    have nv : narrow .boolean (.int v) = .int v := by rcases hv with ⟨rfl, -⟩ | ⟨rfl, -⟩ <;> rfl
    rcases hpc with rfl | rfl
    · exact ⟨s₁, some (.int v), _, _, _, X0, rfl, rfl, rfl, (fun h => by cases h), ⟨v, rfl, hh0, hv⟩, fun fs hl => cz.trans (X0.ireturnOut hexec hret nv (Or.inr (Or.inl rfl)) (hb hbytes d25) hl)⟩
    · exact ⟨s₁, some (.int v), _, _, _, X0, rfl, rfl, rfl, (fun h => by cases h), ⟨v, rfl, hh0, hv⟩, fun fs hl => cz.trans (X0.ireturnOut hexec hret nv (Or.inr (Or.inl rfl)) (hb hbytes d33) hl)⟩
  · have c3 : Steps p.tables e below (s₁.setTop (entryFrame m #[.ref a, .ref b] 3)) (s₁.setTop (mkF m 35 #[.val (.ref a), .val (.ref b), .unset] [.int 0])) := c2.trans (by
      refine XS.icmpYes X0.here hexec rfl (pc0 := 4) rfl (hb hbytes d4) rfl (ii_ne_t (ne32 a31 b31 hs)) (by decide) rfl ?_
      refine iconstV X0.here hexec rfl 0 (hb hbytes d34) (by decide) ?_
      exact Steps.refl _)
    exact ⟨s₁, some (.int 0), _, _, _, X0, rfl, rfl, rfl, (fun h => by cases h), ⟨0, rfl, hh0, Or.inr ⟨rfl, fun q => hs q.1⟩⟩, fun fs hl => c3.trans (X0.ireturnOut hexec hret rfl (Or.inr (Or.inl rfl)) (hb hbytes d35) hl)⟩
end LEq
theorem Cod.ty {cd : Int32} {n : Nat} {f : Nat → Int32} {V : Cell} (h : Cod cd n f V) : Typed .byte V := fun i v hv => by
  have hi : i < V.slots.size := (Array.getElem?_eq_some_iff.mp hv).1
  rcases h with ⟨-, k1, k2⟩ | ⟨-, k1, k2, -⟩
  · rw [(k2 i (by omega)).1] at hv; cases hv; exact fits_lo8 _
  · rcases Nat.mod_two_eq_zero_or_one i with e | e
    · obtain ⟨j, rfl⟩ : ∃ j, i = 2 * j := ⟨i / 2, by omega⟩
      rw [(k2 j (by omega)).1] at hv; cases hv; exact fits_lo8 _
    · obtain ⟨j, rfl⟩ : ∃ j, i = 2 * j + 1 := ⟨i / 2, by omega⟩
      rw [(k2 j (by omega)).2] at hv; cases hv; exact fits_lo8 _
/-- the same text -/
def SameT (n : Nat) (f : Nat → Int32) (k : Nat) (g : Nat → Int32) : Prop := n = k ∧ ∀ j, j < n → f j = g j
theorem lo8_inj {x y : Int32} (h0 : ¬ x < 0) (h1 : ¬ 255 < x) (k0 : ¬ y < 0) (k1 : ¬ 255 < y) (h : lo8 x = lo8 y) : x = y := by
  rw [← lo8_mask h0 h1, ← lo8_mask k0 k1, h]
/-- arrays coded by one coder are equal just where the texts are -/
theorem Cod.eqv {cd : Int32} {n k : Nat} {f g : Nat → Int32} {V V' : Cell} (h : Cod cd n f V) (h' : Cod cd k g V') (hf : ∀ j, j < n → ¬ f j < 0 ∧ ¬ 65535 < f j) (hg : ∀ j, j < k → ¬ g j < 0 ∧ ¬ 65535 < g j) : EqC V V' ↔ SameT n f k g := by
  have yvv : ∀ {W : Cell} {i : Nat} {x : Int32}, W.slots[i]? = some (.int x) → yv W i = x := fun q => by unfold yv; rw [q]
  rcases h with ⟨rfl, k1, k2⟩ | ⟨rfl, k1, k2, -⟩
  · rcases h' with ⟨-, m1, m2⟩ | ⟨e, -⟩
    · constructor
      · rintro ⟨e1, e2⟩
        refine ⟨by omega, fun j hj => ?_⟩
        have q := e2 j (by omega)
        rw [yvv (k2 j hj).1, yvv (m2 j (by omega)).1] at q
        exact lo8_inj (hf j hj).1 (k2 j hj).2 (hg j (by omega)).1 (m2 j (by omega)).2 q
      · rintro ⟨rfl, e2⟩
        refine ⟨by omega, fun j hj => ?_⟩
        rw [yvv (k2 j (by omega)).1, yvv (m2 j (by omega)).1, e2 j (by omega)]
    · exact absurd e (by decide)
  · rcases h' with ⟨e, -⟩ | ⟨-, m1, m2, -⟩
    · exact absurd e (by decide)
    · constructor
      · rintro ⟨e1, e2⟩
        refine ⟨by omega, fun j hj => ?_⟩
        have q1 := e2 (2 * j) (by omega)
        have q2 := e2 (2 * j + 1) (by omega)
        rw [yvv (k2 j hj).1, yvv (m2 j (by omega)).1] at q1
        rw [yvv (k2 j hj).2, yvv (m2 j (by omega)).2] at q2
        rw [← pair_says (hf j hj).1 (hf j hj).2, ← pair_says (hg j (by omega)).1 (hg j (by omega)).2, q1, q2]
      · rintro ⟨rfl, e2⟩
        refine ⟨by omega, fun i hi => ?_⟩
        rcases Nat.mod_two_eq_zero_or_one i with e | e
        · obtain ⟨j, rfl⟩ : ∃ j, i = 2 * j := ⟨i / 2, by omega⟩
          rw [yvv (k2 j (by omega)).1, yvv (m2 j (by omega)).1, e2 j (by omega)]
        · obtain ⟨j, rfl⟩ : ∃ j, i = 2 * j + 1 := ⟨i / 2, by omega⟩
          rw [yvv (k2 j (by omega)).2, yvv (m2 j (by omega)).2, e2 j (by omega)]
/-- two codings differ: so do the texts -/
theorem Cod.dif {cd cd' : Int32} {n k : Nat} {f g : Nat → Int32} {V V' : Cell} (h : Cod cd n f V) (h' : Cod cd' k g V') (hne : ¬ cd = cd') : ¬ SameT n f k g := by
  rintro ⟨rfl, e⟩
  rcases h with ⟨rfl, -, k2⟩ | ⟨rfl, -, -, j, hj, hw⟩
  · rcases h' with ⟨rfl, -⟩ | ⟨-, -, -, j, hj, hw⟩
    · exact hne rfl
    · exact (k2 j hj).2 (by rw [e j hj]; exact hw)
  · rcases h' with ⟨-, -, m2⟩ | ⟨rfl, -⟩
    · exact (m2 j hj).2 (by rw [← e j hj]; exact hw)
    · exact hne rfl
/-- an object of exactly C is an instance of C -/
theorem cinst {p : Program} {l : Launch} {e : Env} {R : Room} {s : State} {m : MethodId} {args : Array Value} {below : List Frame} {meth : Method} {c : Code} {T : State} {locs : List Loc} {cells slots : Nat} (X : Stand p l e R s m args below meth c T locs cells slots) (hexec : p.tables.exec = Jvm.exec) {own C : String} {index : Nat} (hown : s.vm.findClass own = some m.cls) (hlink : (Cond.classLink own index C).before args s = true) {a : Addr} (hE : Exact C a T)
    {g : JFrame} (hg : g.method = m) {rest : List Value} (hstack : g.stack = .ref a :: rest) (hdg : decode c.code g.pc = .ok (.instanceof index, 3)) :
    ∃ T', Stand p l e R s m args below meth c T' locs cells slots ∧ T'.heap = T.heap ∧ ∀ target, Steps p.tables e below (T'.setTop { g with pc := g.pc + 3, stack := .int 1 :: rest }) target → Steps p.tables e below (T.setTop g) target := by
  obtain ⟨cB, h1, D, h2, h3, h4⟩ := hE
  have h1' : s.vm.findClass C = some cB := by rw [← X.warmed.alike.findClass]; exact h1
  obtain ⟨vm', X', st⟩ := X.instanceofYes hexec hown hlink h2 h4 h1' (by rw [h3]; exact Jvm.Free.SB.assignable_self _ _) hg hstack hdg
  exact ⟨_, X', rfl, st⟩
theorem cself {p : Program} {l : Launch} {e : Env} {R : Room} {s : State} {m : MethodId} {args : Array Value} {below : List Frame} {meth : Method} {c : Code} {T : State} {locs : List Loc} {cells slots : Nat} (X : Stand p l e R s m args below meth c T locs cells slots) (hexec : p.tables.exec = Jvm.exec) {own C : String} {index : Nat} (hown : s.vm.findClass own = some m.cls) (hlink : (Cond.classLink own index C).before args s = true) {a : Addr} (hE : Exact C a T)
    {g : JFrame} (hg : g.method = m) {rest : List Value} (hstack : g.stack = .ref a :: rest) (hdg : decode c.code g.pc = .ok (.checkcast index, 3)) :
    ∃ T', Stand p l e R s m args below meth c T' locs cells slots ∧ T'.heap = T.heap ∧ ∀ target, Steps p.tables e below (T'.setTop { g with pc := g.pc + 3, stack := .ref a :: rest }) target → Steps p.tables e below (T.setTop g) target := by
  obtain ⟨cB, h1, D, h2, h3, h4⟩ := hE
  have h1' : s.vm.findClass C = some cB := by rw [← X.warmed.alike.findClass]; exact h1
  obtain ⟨vm', X', st⟩ := X.checkcastYes hexec hown hlink h2 h4 h1' (by rw [h3]; exact Jvm.Free.SB.assignable_self _ _) hg hstack hdg
  exact ⟨_, X', rfl, fun t h => st t (by rw [← hstack] at h; exact h)⟩
namespace SEq
def yN : MethodName := ⟨"java/lang/String", "equals", "(Ljava/lang/Object;)Z"⟩
abbrev yB : ByteArray := jdk_42_method_66_code
theorem d0 : decode yB 0 = .ok (.aload_n 0, 1) := by decide +kernel
theorem d1 : decode yB 1 = .ok (.aload_n 1, 1) := by decide +kernel
theorem d2 : decode yB 2 = .ok (.if_acmp (.ne) 5, 3) := by decide +kernel
theorem d5 : decode yB 5 = .ok (.iconst 1, 1) := by decide +kernel
theorem d6 : decode yB 6 = .ok (.ireturn, 1) := by decide +kernel
theorem d7 : decode yB 7 = .ok (.aload_n 1, 1) := by decide +kernel
theorem d8 : decode yB 8 = .ok (.instanceof 10, 3) := by decide +kernel
theorem d11 : decode yB 11 = .ok (.ifCond (.eq) 43, 3) := by decide +kernel
theorem d14 : decode yB 14 = .ok (.aload_n 1, 1) := by decide +kernel
theorem d15 : decode yB 15 = .ok (.checkcast 10, 3) := by decide +kernel
theorem d18 : decode yB 18 = .ok (.astore_n 2, 1) := by decide +kernel
theorem d19 : decode yB 19 = .ok (.getstatic 38, 3) := by decide +kernel
theorem d22 : decode yB 22 = .ok (.ifCond (.eq) 14, 3) := by decide +kernel
theorem d25 : decode yB 25 = .ok (.aload_n 0, 1) := by decide +kernel
theorem d26 : decode yB 26 = .ok (.getfield 15, 3) := by decide +kernel
theorem d29 : decode yB 29 = .ok (.aload_n 2, 1) := by decide +kernel
theorem d30 : decode yB 30 = .ok (.getfield 15, 3) := by decide +kernel
theorem d33 : decode yB 33 = .ok (.if_icmp (.ne) 21, 3) := by decide +kernel
theorem d36 : decode yB 36 = .ok (.aload_n 0, 1) := by decide +kernel
theorem d37 : decode yB 37 = .ok (.getfield 9, 3) := by decide +kernel
theorem d40 : decode yB 40 = .ok (.aload_n 2, 1) := by decide +kernel
theorem d41 : decode yB 41 = .ok (.getfield 9, 3) := by decide +kernel
theorem d44 : decode yB 44 = .ok (.invokestatic 541, 3) := by decide +kernel
theorem d47 : decode yB 47 = .ok (.ifCond (.eq) 7, 3) := by decide +kernel
theorem d50 : decode yB 50 = .ok (.iconst 1, 1) := by decide +kernel
theorem d51 : decode yB 51 = .ok (.goto 4, 3) := by decide +kernel
theorem d54 : decode yB 54 = .ok (.iconst 0, 1) := by decide +kernel
theorem d55 : decode yB 55 = .ok (.ireturn, 1) := by decide +kernel
def site : List Cond := [.classLink "java/lang/String" 10 "java/lang/String", .fieldLink "java/lang/String" 38 "java/lang/String" "COMPACT_STRINGS" "Z", .fieldLink "java/lang/String" 15 "java/lang/String" "coder" "B", .fieldLink "java/lang/String" 9 "java/lang/String" "value" "[B", LEq.tab] ++ staticW "java/lang/String" 541 LEq.yN
def tab : Cond := tabOf yN yB 3 (some .boolean) site
def P (x t : Addr) (V : Cell) (cd : Int32) (n : Nat) (f : Nat → Int32) (y t' : Addr) (V' : Cell) (cd' : Int32) (k : Nat) (g : Nat → Int32) (z : Int32) (args : Array Value) (s : State) : Prop := args = #[.ref x, .ref y] ∧ Txt x t V cd n f s ∧ Txt y t' V' cd' k g s ∧ StaticIs s "java/lang/String" "COMPACT_STRINGS" "Z" (.int z) ∧ ¬ z = 0
/-- equals(Object) of two Strings: whether the texts are the same -/
theorem law (l : Launch) (x t : Addr) (V : Cell) (cd : Int32) (n : Nat) (f : Nat → Int32) (y t' : Addr) (V' : Cell) (cd' : Int32) (k : Nat) (g : Nat → Int32) (z : Int32) : Law l yN 2 1 1 14 yB 3 (some .boolean) site (P x t V cd n f y t' V' cd' k g z) (Says01 (SameT n f k g)) [] 0 0 := by
  refine Law.of_walk (plainFor_of_name (by decide +kernel)) (by decide +kernel) (by decide +kernel) (by decide) (fun _ _ h => by rw [h.1]; rfl) (fun _ U U' hal hh h => ⟨h.1, h.2.1.mv hal hh, h.2.2.1.mv hal hh, h.2.2.2.1.there hal hh, h.2.2.2.2⟩) (fun r U U' V V' h1 hal h2 h => Says01.mv r U U' V V' h1 hal h2 h) ?_
  intro p e s m args below meth c s₁ X0 hexec hbytes hml hret hlk hnm hown hh0 W hP
  obtain ⟨rfl, hx, hy, s1, hz⟩ := hP
  have c1 : Steps p.tables e below (s₁.setTop (entryFrame m #[.ref x, .ref y] 3)) (s₁.setTop (mkF m 2 #[.val (.ref x), .val (.ref y), .unset] [.ref y, .ref x])) := Steps.trans (entry rfl) (by
    show Steps p.tables e below (s₁.setTop (mkF m 0 #[.val (.ref x), .val (.ref y), .unset] [])) _
    refine XS.aloadN X0.here hexec rfl (hb hbytes d0) rfl rfl ?_
    refine XS.aloadN X0.here hexec rfl (hb hbytes d1) rfl rfl ?_
    exact Steps.refl _)
  by_cases hxy : x = y
  · have c2 : Steps p.tables e below (s₁.setTop (entryFrame m #[.ref x, .ref y] 3)) (s₁.setTop (mkF m 6 #[.val (.ref x), .val (.ref y), .unset] [.int 1])) := c1.trans (by
      refine acmpNo X0.here hexec rfl (hb hbytes d2) rfl rfl rfl (by simp [acmp, hxy]) ?_
      refine iconstV X0.here hexec rfl 1 (hb hbytes d5) (by decide) ?_
      exact Steps.refl _)
    subst hxy
    have ec : cd = cd' := by
      obtain ⟨D, fd, a1, a2, a3⟩ := hx.2.2.1
      obtain ⟨D', fd', b1, b2, b3⟩ := hy.2.2.1
      cases a1.symm.trans b1
      obtain ⟨q1, q2, q3, q4⟩ := a2.1
      obtain ⟨r1, r2, r3, r4⟩ := b2.1
      cases q4.symm.trans r4
      cases a3.symm.trans b3; rfl
    have et : t = t' := by
      obtain ⟨D, fd, a1, a2, a3⟩ := hx.2.1
      obtain ⟨D', fd', b1, b2, b3⟩ := hy.2.1
      cases a1.symm.trans b1
      obtain ⟨q1, q2, q3, q4⟩ := a2.1
      obtain ⟨r1, r2, r3, r4⟩ := b2.1
      cases q4.symm.trans r4
      cases a3.symm.trans b3; rfl
    subst ec et
    have ev : V = V' := by cases hx.2.2.2.1.1.symm.trans hy.2.2.2.1.1; rfl
    subst ev
    have hs : SameT n f k g := (Cod.eqv hx.2.2.2.2.1 hy.2.2.2.2.1 hx.2.2.2.2.2 hy.2.2.2.2.2).mp ⟨rfl, fun _ _ => rfl⟩
    exact ⟨s₁, some (.int 1), _, _, _, X0, rfl, rfl, rfl, (fun h => by cases h), ⟨1, rfl, hh0, Or.inl ⟨rfl, hs⟩⟩, fun fs hl => c2.trans (X0.ireturnOut hexec hret rfl (Or.inr (Or.inl rfl)) (hb hbytes d6) hl)⟩
  · have c2 : Steps p.tables e below (s₁.setTop (entryFrame m #[.ref x, .ref y] 3)) (s₁.setTop (mkF m 8 #[.val (.ref x), .val (.ref y), .unset] [.ref y])) := c1.trans (by
      refine acmpYes X0.here hexec rfl (pc0 := 2) rfl (hb hbytes d2) rfl rfl rfl (by simp [acmp, hxy]) (by decide) rfl ?_
      refine XS.aloadN X0.here hexec rfl (hb hbytes d7) rfl rfl ?_
      exact Steps.refl _)
    obtain ⟨T3, X3, q3, st3⟩ := cinst X0 hexec hown (wk W (.classLink "java/lang/String" 10 "java/lang/String")) (hy.mv X0.warmed.alike hh0).1 (g := (mkF m 8 #[.val (.ref x), .val (.ref y), .unset] [.ref y])) rfl (rest := []) rfl (hb hbytes d8)
    have hh3 := q3.trans hh0
    have c4 : Steps p.tables e below (s₁.setTop (entryFrame m #[.ref x, .ref y] 3)) (T3.setTop (mkF m 15 #[.val (.ref x), .val (.ref y), .unset] [.ref y])) := (c2.trans (st3 _ (Steps.refl _))).trans (by
      refine XS.ifNo X3.here hexec rfl (hb hbytes d11) rfl (i0_eq_f (by decide)) ?_
      refine XS.aloadN X3.here hexec rfl (hb hbytes d14) rfl rfl ?_
      exact Steps.refl _)
    obtain ⟨T5, X5, q5, st5⟩ := cself X3 hexec hown (wk W (.classLink "java/lang/String" 10 "java/lang/String")) (hy.mv X3.warmed.alike hh3).1 (g := (mkF m 15 #[.val (.ref x), .val (.ref y), .unset] [.ref y])) rfl (rest := []) rfl (hb hbytes d15)
    have hh5 := q5.trans hh3
    have c6 : Steps p.tables e below (s₁.setTop (entryFrame m #[.ref x, .ref y] 3)) (T5.setTop (mkF m 19 #[.val (.ref x), .val (.ref y), .val (.ref y)] [])) := (c4.trans (st5 _ (Steps.refl _))).trans (by
      refine XS.astoreN X5.here hexec rfl (hb hbytes d18) rfl rfl rfl ?_
      exact Steps.refl _)
    obtain ⟨T7, X7, q7, st7⟩ := X5.sget hexec hown (wk W (.fieldLink "java/lang/String" 38 "java/lang/String" "COMPACT_STRINGS" "Z")) s1 (fun _ _ h => by rw [hh5]; exact h) (g := (mkF m 19 #[.val (.ref x), .val (.ref y), .val (.ref y)] [])) rfl (hb hbytes d19)
    have hh7 := q7.trans hh5
    have c8 : Steps p.tables e below (s₁.setTop (entryFrame m #[.ref x, .ref y] 3)) (T7.setTop (mkF m 26 #[.val (.ref x), .val (.ref y), .val (.ref y)] [.ref x])) := (c6.trans (st7 _ (Steps.refl _))).trans (by
      refine XS.ifNo X7.here hexec rfl (hb hbytes d22) rfl (i0_eq_f hz) ?_
      refine XS.aloadN X7.here hexec rfl (hb hbytes d25) rfl rfl ?_
      exact Steps.refl _)
    obtain ⟨T9, X9, q9, st9⟩ := X7.hget hexec hown (wk W (.fieldLink "java/lang/String" 15 "java/lang/String" "coder" "B")) (hx.mv X7.warmed.alike hh7).2.2.1 (g := (mkF m 26 #[.val (.ref x), .val (.ref y), .val (.ref y)] [.ref x])) rfl (rest := []) rfl (hb hbytes d26)
    have hh9 := q9.trans hh7
    have c10 : Steps p.tables e below (s₁.setTop (entryFrame m #[.ref x, .ref y] 3)) (T9.setTop (mkF m 30 #[.val (.ref x), .val (.ref y), .val (.ref y)] [.ref y, .int cd])) := (c8.trans (st9 _ (Steps.refl _))).trans (by
      refine XS.aloadN X9.here hexec rfl (hb hbytes d29) rfl rfl ?_
      exact Steps.refl _)
    obtain ⟨T11, X11, q11, st11⟩ := X9.hget hexec hown (wk W (.fieldLink "java/lang/String" 15 "java/lang/String" "coder" "B")) (hy.mv X9.warmed.alike hh9).2.2.1 (g := (mkF m 30 #[.val (.ref x), .val (.ref y), .val (.ref y)] [.ref y, .int cd])) rfl (rest := [.int cd]) rfl (hb hbytes d30)
    have hh11 := q11.trans hh9
    have c12 : Steps p.tables e below (s₁.setTop (entryFrame m #[.ref x, .ref y] 3)) (T11.setTop (mkF m 33 #[.val (.ref x), .val (.ref y), .val (.ref y)] [.int cd', .int cd])) := c10.trans (st11 _ (Steps.refl _))
    by_cases hcd : cd = cd'
    · subst hcd
      have c13 : Steps p.tables e below (s₁.setTop (entryFrame m #[.ref x, .ref y] 3)) (T11.setTop (mkF m 37 #[.val (.ref x), .val (.ref y), .val (.ref y)] [.ref x])) := c12.trans (by
        refine XS.icmpNo X11.here hexec rfl (hb hbytes d33) rfl (ii_ne_f rfl) ?_
        refine XS.aloadN X11.here hexec rfl (hb hbytes d36) rfl rfl ?_
        exact Steps.refl _)
      obtain ⟨T14, X14, q14, st14⟩ := X11.hget hexec hown (wk W (.fieldLink "java/lang/String" 9 "java/lang/String" "value" "[B")) (hx.mv X11.warmed.alike hh11).2.1 (g := (mkF m 37 #[.val (.ref x), .val (.ref y), .val (.ref y)] [.ref x])) rfl (rest := []) rfl (hb hbytes d37)
      have hh14 := q14.trans hh11
      have c15 : Steps p.tables e below (s₁.setTop (entryFrame m #[.ref x, .ref y] 3)) (T14.setTop (mkF m 41 #[.val (.ref x), .val (.ref y), .val (.ref y)] [.ref y, .ref t])) := (c13.trans (st14 _ (Steps.refl _))).trans (by
        refine XS.aloadN X14.here hexec rfl (hb hbytes d40) rfl rfl ?_
        exact Steps.refl _)
      obtain ⟨T16, X16, q16, st16⟩ := X14.hget hexec hown (wk W (.fieldLink "java/lang/String" 9 "java/lang/String" "value" "[B")) (hy.mv X14.warmed.alike hh14).2.1 (g := (mkF m 41 #[.val (.ref x), .val (.ref y), .val (.ref y)] [.ref y, .ref t])) rfl (rest := [.ref t]) rfl (hb hbytes d41)
      have hh16 := q16.trans hh14
      have c17 : Steps p.tables e below (s₁.setTop (entryFrame m #[.ref x, .ref y] 3)) (T16.setTop (mkF m 44 #[.val (.ref x), .val (.ref y), .val (.ref y)] [.ref t', .ref t])) := c15.trans (st16 _ (Steps.refl _))
      obtain ⟨v18, T18, X18, E18, g18⟩ := X16.callS hexec (LEq.law l t V t' V') hown (wks W (staticW "java/lang/String" 541 LEq.yN)) (wk W LEq.tab) (W := 0) (Nat.le_of_ble_eq_true rfl) (Nat.le_of_ble_eq_true rfl) (Nat.le_refl _) (Nat.le_refl _) (g := (mkF m 44 #[.val (.ref x), .val (.ref y), .val (.ref y)] [.ref t', .ref t])) rfl (by rw [hml]; rfl) c17 (argsL := [.ref t, .ref t']) (rest := []) rfl rfl (by show 2 * 0 + 0 ≤ _; decide) (hb hbytes d44) (⟨rfl, hx.2.2.2.1.mv X16.warmed.alike hh16, hx.2.2.2.2.1.ty, hy.2.2.2.1.mv X16.warmed.alike hh16, hy.2.2.2.2.1.ty⟩)
      obtain ⟨v, rfl, q18, hv⟩ := E18
      have iff := Cod.eqv hx.2.2.2.2.1 hy.2.2.2.2.1 hx.2.2.2.2.2 hy.2.2.2.2.2
      rcases hv with ⟨rfl, he⟩ | ⟨rfl, he⟩
      · have c19 : Steps p.tables e below (s₁.setTop (entryFrame m #[.ref x, .ref y] 3)) (T18.setTop (mkF m 55 #[.val (.ref x), .val (.ref y), .val (.ref y)] [.int 1])) := Steps.trans g18 (by
          refine XS.ifNo X18.here hexec rfl (hb hbytes d47) rfl (i0_eq_f (by decide)) ?_
          refine iconstV X18.here hexec rfl 1 (hb hbytes d50) (by decide) ?_
          refine XS.goto X18.here hexec rfl (pc0 := 51) rfl (hb hbytes d51) (by decide) rfl ?_
          exact Steps.refl _)
        exact ⟨T18, some (.int 1), _, _, _, X18, rfl, rfl, rfl, (fun h => by cases h), ⟨1, rfl, q18.trans hh16, Or.inl ⟨rfl, iff.mp he⟩⟩, fun fs hl => c19.trans (X18.ireturnOut hexec hret rfl (Or.inr (Or.inl rfl)) (hb hbytes d55) hl)⟩
      · have c19 : Steps p.tables e below (s₁.setTop (entryFrame m #[.ref x, .ref y] 3)) (T18.setTop (mkF m 55 #[.val (.ref x), .val (.ref y), .val (.ref y)] [.int 0])) := Steps.trans g18 (by
          refine XS.ifYes X18.here hexec rfl (pc0 := 47) rfl (hb hbytes d47) rfl (i0_eq_t rfl) (by decide) rfl ?_
          refine iconstV X18.here hexec rfl 0 (hb hbytes d54) (by decide) ?_
          exact Steps.refl _)
        exact ⟨T18, some (.int 0), _, _, _, X18, rfl, rfl, rfl, (fun h => by cases h), ⟨0, rfl, q18.trans hh16, Or.inr ⟨rfl, fun q => he (iff.mpr q)⟩⟩, fun fs hl => c19.trans (X18.ireturnOut hexec hret rfl (Or.inr (Or.inl rfl)) (hb hbytes d55) hl)⟩
    · have c13 : Steps p.tables e below (s₁.setTop (entryFrame m #[.ref x, .ref y] 3)) (T11.setTop (mkF m 55 #[.val (.ref x), .val (.ref y), .val (.ref y)] [.int 0])) := c12.trans (by
        refine XS.icmpYes X11.here hexec rfl (pc0 := 33) rfl (hb hbytes d33) rfl (ii_ne_t hcd) (by decide) rfl ?_
        refine iconstV X11.here hexec rfl 0 (hb hbytes d54) (by decide) ?_
        exact Steps.refl _)
      exact ⟨T11, some (.int 0), _, _, _, X11, rfl, rfl, rfl, (fun h => by cases h), ⟨0, rfl, hh11, Or.inr ⟨rfl, Cod.dif hx.2.2.2.2.1 hy.2.2.2.2.1 hcd⟩⟩, fun fs hl => c13.trans (X11.ireturnOut hexec hret rfl (Or.inr (Or.inl rfl)) (hb hbytes d55) hl)⟩
theorem pays {l : Launch} {R : Room} {p : Program} {e : Env} {below : List Frame} {s : State} {sargs : Array Value} {len W : Nat} (x t : Addr) (V : Cell) (cd : Int32) (n : Nat) (f : Nat → Int32) (y t' : Addr) (V' : Cell) (cd' : Int32) (k : Nat) (g : Nat → Int32) (z : Int32) (htab : tab.before sargs s = true) (hfr : 2 ≤ R.frames) (hlo : W + 28 ≤ R.locals) :
    Back l R p e below s sargs yN len W (fun A₁ a₁ => A₁.cells + 0 ≤ R.cells ∧ A₁.slots + 0 ≤ R.slots ∧ P x t V cd n f y t' V' cd' k g z a₁ A₁.U) (fun A₁ _ v₁ B₁ => Says01 (SameT n f k g) v₁ A₁.U B₁.U ∧ B₁.locs = A₁.locs ++ [] ∧ B₁.cells = A₁.cells + 0 ∧ B₁.slots = A₁.slots + 0) :=
  (law l x t V cd n f y t' V' cd' k g z).pays htab hfr (by omega)
end SEq
end StrChars
namespace StrChars.Road
open Jvm Sem ClassFile Op Lib Jvm.Stand Jvm.Free Jvm.Free.XT
open Jvm.Lib.Cold (StaticIs)
/-- the words of String.equals(Object) -/
abbrev wordsEq : List Jvm.Cond := [.code SEq.yN SEq.yB 3 (some .boolean), .initialized ST, .classLink ST 10 ST, .fieldLink ST 38 ST "COMPACT_STRINGS" "Z", .fieldLink ST 15 ST "coder" "B", .fieldLink ST 9 ST "value" "[B", .methodLink ST 541 LEq.yN, .static LEq.yN, .code LEq.yN LEq.yB 3 (some .boolean), .initialized "java/lang/StringLatin1"]
theorem tabEq_of {a : Array Value} {s : State} (h : ∀ w ∈ wordsEq, w.before a s = true) : SEq.tab.before a s = true := by
  have hl : LEq.tab.before a s = true := unparts (wk h (.code LEq.yN LEq.yB 3 (some .boolean))) (wks h (.initialized LEq.yN.cls :: LEq.site))
  have q := consq hl h
  exact unparts (wk q (.code SEq.yN SEq.yB 3 (some .boolean))) (wks q (.initialized SEq.yN.cls :: SEq.site))
theorem movedEq {Z s : State} {a0 args : Array Value} (hZ : Z.Warmed39 s.vm) (hw : ∀ d ∈ wordsEq, d.before a0 Z = true) : ∀ d ∈ wordsEq, d.before args s = true := fun d hd => by
  have t : ∀ d ∈ wordsEq, (d.onTables && d.keepsFace) = true := by decide +kernel
  exact RoadKit.mv hZ (hw d hd) (t d hd)
/-- the road's facts of a String, as the laws ask it -/
theorem txt_of {Z U : State} {a0 : Array Value} {kI : Nat} (wi : (Jvm.Cond.instantiable ST kI).before a0 Z = true) (al : Z.vm.Alike U.vm) {x t : Addr} {kb : ClassId} {cs : List Int32} {cd N2 : Int32} {vs : List Value} (E : RoadKit.Exa Z U.heap x ST) (V : RoadKit.Fld Z U.heap x ST "value" "[B" (.ref t)) (C : RoadKit.Fld Z U.heap x ST "coder" "B" (.int cd)) (K : RoadKit.Arv Z U.heap t kb .byte N2 vs (.int 0)) (hc : CodA cs cd N2 vs) (hb : ∀ c ∈ cs, ¬ c < 0 ∧ ¬ (65535 : Int32) < c) (l2 : cs.length ≤ 4000) :
    ∃ A, Txt x t A cd cs.length (fun j => cs.getD j 0) U := by
  obtain ⟨A, K1, K2, K3, K4, K5, K6⟩ := K
  have hcod := hc.cod (by omega) K3 K5
  obtain ⟨D, fV, fC, hB, F1, F2, g1, g2, -, -⟩ := strObj wi al E V C
  exact ⟨A, ⟨_, hB.2.2.1, D, hB.1, rfl, by cases q : D.vm <;> first | rfl | exact absurd q (hB.2.1.2 _)⟩, Has.of hB F1 g1, Has.of hB F2 g2, ⟨K1.1, State.isArrayOf_alike al K1.2.1, K1.2.2, by rcases hcod with ⟨-, q, -⟩ | ⟨-, q, -⟩ <;> omega⟩, hcod, fun j hj => by
    have e : cs.getD j 0 = cs[j] := by simp [List.getD_eq_getElem?_getD, hj]
    show ¬ cs.getD j 0 < 0 ∧ ¬ 65535 < cs.getD j 0
    rw [e]; exact hb _ (List.getElem_mem _)⟩
theorem same_list (cs ds : List Int32) : SameT cs.length (fun j => cs.getD j 0) ds.length (fun j => ds.getD j 0) ↔ cs = ds := by
  constructor
  · rintro ⟨e, q⟩
    refine List.ext_getElem e fun j h1 h2 => ?_
    have := q j h1
    simpa [List.getD_eq_getElem?_getD, h1, h2] using this
  · rintro rfl
    exact ⟨rfl, fun _ _ => rfl⟩
/-- **equals(Object) OF TWO SUCH STRINGS**: 1 just where the chars are the same -/
theorem eqW {p : Program} {l : Launch} {e : Env} {R : Room} {s : State} {args : Array Value} {below : List Frame} {len W : Nat} {Z : State} {a0 : Array Value} {h : Heap} (hZ : Z.Warmed39 s.vm) (hw : ∀ d ∈ wordsEq, d.before a0 Z = true) {kI : Nat} (wi : (Jvm.Cond.instantiable ST kI).before a0 Z = true)
    {x t : Addr} {kb : ClassId} {cs : List Int32} {cd N2 : Int32} {vs : List Value} (E : RoadKit.Exa Z h x ST) (V : RoadKit.Fld Z h x ST "value" "[B" (.ref t)) (C : RoadKit.Fld Z h x ST "coder" "B" (.int cd)) (K : RoadKit.Arv Z h t kb .byte N2 vs (.int 0)) (hc : CodA cs cd N2 vs) (hb : ∀ c ∈ cs, ¬ c < 0 ∧ ¬ (65535 : Int32) < c) (l2 : cs.length ≤ 4000)
    {y t' : Addr} {kb' : ClassId} {ds : List Int32} {cd' N2' : Int32} {vs' : List Value} (E' : RoadKit.Exa Z h y ST) (V' : RoadKit.Fld Z h y ST "value" "[B" (.ref t')) (C' : RoadKit.Fld Z h y ST "coder" "B" (.int cd')) (K' : RoadKit.Arv Z h t' kb' .byte N2' vs' (.int 0)) (hc' : CodA ds cd' N2' vs') (hb' : ∀ c ∈ ds, ¬ c < 0 ∧ ¬ (65535 : Int32) < c) (l2' : ds.length ≤ 4000)
    {z : Int32} (S : RoadKit.Sta Z h ST "COMPACT_STRINGS" "Z" (.int z)) (hz : ¬ z = 0) (hfr : 2 ≤ R.frames) (hlo : W + 28 ≤ R.locals) :
    Back l R p e below s args (⟨"java/lang/String", "equals", "(Ljava/lang/Object;)Z"⟩ : MethodName) len W (fun P a => a = #[.ref x, .ref y] ∧ P.U.heap = h ∧ P.cells + 0 ≤ R.cells ∧ P.slots + 0 ≤ R.slots)
      (fun P _ v B => ∃ L, (((v = some (.int 1) ∧ cs = ds) ∨ (v = some (.int 0) ∧ ¬ cs = ds)) ∧ L = [] ∧ B.U.heap = h) ∧ B.locs = P.locs ++ L ∧ B.cells = P.cells + 0 ∧ B.slots = P.slots + 0) := by
  intro m meth c P g ig mk a X hg hsize hdg hW hn hp'
  obtain ⟨rfl, rfl, r1, r2⟩ := hp'
  have al : Z.vm.Alike P.U.vm := hZ.alike.trans X.warmed.alike
  obtain ⟨A, hx⟩ := txt_of wi al E V C K hc hb l2
  obtain ⟨A', hy⟩ := txt_of wi al E' V' C' K' hc' hb' l2'
  obtain ⟨v, B, X', ⟨⟨w, hv, hh, hq⟩, hl, hk, hs⟩, st⟩ := SEq.pays x t A cd cs.length (fun j => cs.getD j 0) y t' A' cd' ds.length (fun j => ds.getD j 0) z (tabEq_of (movedEq hZ hw)) hfr hlo m meth c P g ig mk _ X hg hsize hdg hW hn ⟨r1, r2, rfl, hx, hy, sta_is al S, hz⟩
  refine ⟨v, B, X', ⟨[], ⟨?_, rfl, hh⟩, hl, hk, hs⟩, st⟩
  rcases hq with ⟨rfl, q⟩ | ⟨rfl, q⟩
  · exact Or.inl ⟨hv, (same_list cs ds).mp q⟩
  · exact Or.inr ⟨hv, fun e => q ((same_list cs ds).mpr e)⟩
end StrChars.Road
namespace StrChars.Road
open Jvm Sem ClassFile Op Lib Jvm.Stand Jvm.Free Jvm.Free.XT
open Jvm.Lib.Cold (StaticIs)
/-- what backV says of its String, as the contracts of this text ask it: cs's low bytes, coder 0 -/
theorem codOf {cs : List Int32} {n : Nat} (hn : cs.length = n) (hb : ∀ c ∈ cs, ¬ 255 < c) : CodA cs 0 (Int32.ofNat n) ((cs.map lo8).map Value.int) := Or.inl ⟨rfl, by rw [hn], by simp [List.map_map, Function.comp_def], hb⟩
end StrChars.Road
end Jvm.Pilot.@@N@@
namespace Jvm.RoadKit
open Sem ClassFile Op Lib Jvm.Stand Jvm.Free Jvm.LawKit
section New
variable {p : Program} {l : Launch} {e : Env} {R : Room} {s : State} {m : MethodId} {args : Array Value} {below : List Frame} {meth : Method} {c : Code} {T : State} {locs : List Loc} {cells slots : Nat}
theorem retI (X : Stand p l e R s m args below meth c T locs cells slots) (hx : p.tables.exec = Jvm.exec) {pc : Nat} {Ls : Array Slot} {z : Int32} {rest : List Value} (hret : meth.sig.returnType = some .int) (hd : decode c.code pc = .ok (.ireturn, 1)) {fs : List Frame}
    (hl : ∀ (f : JFrame) (acts : List Action), f.method = m → f.locked = none → f.entered = [] → (doReturn e (T.setTop f) acts (some (.int z))).1 = T.setFrames fs) : Steps p.tables e below (T.setTop (mkF m pc Ls (.int z :: rest))) (T.setFrames fs) := by
  have hm' : T.vm.method? m = some meth := X.method'
  have hn : narrow .int (.int z) = .int z := rfl
  show Steps p.tables e below (T.setTop { method := m, pc := pc, locals := Ls, stack := _ :: rest, locked := none }) _
  jvm_step X.here [X.here.top, hx, hd, hm', hret, hn]
  first | (intro acts; rw [hl _ acts rfl rfl rfl]) | rw [hl _ _ rfl rfl rfl]
  exact Steps.refl _
end New
end Jvm.RoadKit
namespace Jvm.Pilot.@@N@@
open Jvm Jvm.ClassFile Sem Op Lib Jvm.Free Jvm.Stand Jvm.LawKit Jvm.RoadKit Bundle Jvm.Pilot.@@N@@.Jvm.D
/-- every run from the state T with the frame f on top is a run from s0 with f0 -/
def GoTo (tb : Tables) (e : Env) (below : List Frame) (s0 : State) (f0 : JFrame) (T : State) (f : JFrame) : Prop := ∀ t, Steps tb e below (T.setTop f) t → Steps tb e below (s0.setTop f0) t
theorem own_cI (x : Int32) : (Value.int x).category = 1 := rfl
theorem own_cJ (x : Int64) : (Value.long x).category = 2 := rfl
theorem own_cR (x : Addr) : (Value.ref x).category = 1 := rfl
theorem own_cN : Value.null.category = 1 := rfl
theorem own_zlt {Z : State} {n0 : Nat} {h : Heap} {a : Addr} (O : Old Z n0 h) (q : a < Z.heap.size) : a < n0 := O.1 ▸ q
theorem own_selfSel {s : State} {args : Array Value} {C : String} {y : MethodName} (hsel : (Cond.selects C y y).before args s = true) (hpriv : s.PrivateAt y) (hinst : (Cond.instanceMethod y).before args s = true) (hy : y.cls ≠ "java/lang/invoke/MethodHandle" ∧ y.cls ≠ "java/lang/invoke/VarHandle") : (Cond.selects y.cls y y).before args s = true := by
  obtain ⟨c2, r2, m2, -, -, q3, -, kP, hkP, hkPi⟩ := Cond.selects_spec hsel
  exact selects_self_of_private (findClass_of_methodNamed q3) hkP hkPi hpriv hinst hy
theorem own_sameSelf {s : State} {args : Array Value} {C : String} {y z : MethodName} (hsel : (Cond.selects C z z).before args s = true) (hzy : z.cls = y.cls) (hinst : (Cond.instanceMethod y).before args s = true) (hy : y.cls ≠ "java/lang/invoke/MethodHandle" ∧ y.cls ≠ "java/lang/invoke/VarHandle") : (Cond.sameMethod y.cls y.cls y.name y.desc).before args s = true := by
  obtain ⟨c2, r2, m2, -, -, q3, -, kP, hkP, hkPi⟩ := Cond.selects_spec hsel
  obtain ⟨mk, methM, hnamed, hmethM, -, -⟩ := Cond.instanceMethod_spec hinst
  have h1 := findClass_of_methodNamed q3
  have h2 := findClass_of_methodNamed hnamed
  rw [hzy] at h1
  have hcls : mk.cls = m2.cls := Option.some.inj (h2.symm.trans h1)
  have hf := State.methodFound?_of_named hnamed hy
  obtain ⟨yc, yn, yd⟩ := y
  dsimp only at h1 h2 hf ⊢
  simp only [Cond.before, Cond.holds, Cond.value, h2, hf, hnamed, hcls, hkP]
  simp [hkPi]
theorem own_notFace {s : State} {args : Array Value} {C : String} {x y z : MethodName} (hsel : (Cond.selects C x z).before args s = true) (hzy : z.cls = y.cls) : NotFace s y := fun r0 h0 => by
  obtain ⟨c2, r2, m2, -, -, q3, -, kP, hkP, hkPi⟩ := Cond.selects_spec hsel
  have h1 := findClass_of_methodNamed q3
  rw [hzy] at h1
  have h2 := findClass_of_methodNamed h0
  have e : m2.cls = r0.cls := Option.some.inj (h1.symm.trans h2)
  exact ⟨kP, e ▸ hkP, hkPi⟩
theorem own_le {Z : State} {n0 : Nat} {h : Heap} (O : Old Z n0 h) : n0 ≤ h.size := O.1 ▸ O.2.1
theorem own_mono {p : Program} {l : Launch} {e : Env} {R : Room} {s : State} {m : MethodId} {args : Array Value} {below : List Frame} {meth : Method} {c : Code} {T : State} {locs : List Loc} {cells slots cells' slots' : Nat} (X : Stand p l e R s m args below meth c T locs cells slots) (h1 : cells ≤ cells') (h2 : slots ≤ slots') : Stand p l e R s m args below meth c T locs cells' slots' := { X with same := X.same.mono h1 h2 }
theorem own_NSroot {Z : State} {a0 : Array Value} {O K : String} {n : Nat} (w : (Jvm.Cond.noSuperclass O).before a0 Z = true) (wk : (Jvm.Cond.instantiable K n).before a0 Z = true) (hn : O ≠ K) : NS Z O K := by
  obtain ⟨c, k, h1, h2, h3, -, -⟩ := Cond.noSuperclass_spec w
  obtain ⟨t, k2, g1, -⟩ := Cond.instantiable_spec wk
  have ne := ids_ne h1 g1 hn
  refine ⟨c, t, h1, g1, fun fuel => ?_⟩
  cases fuel with
  | zero => rfl
  | succ f => simp [Vm.isSubclassAux, ne, h2, h3]
theorem own_NSno {Z : State} {a0 : Array Value} {C S K : String} {n : Nat} (w : (Jvm.Cond.superclass C S).before a0 Z = true) (wk : (Jvm.Cond.instantiable K n).before a0 Z = true) (nn : NS Z C K) (hn : C ≠ K) : ∃ c t, Z.vm.findClass C = some c ∧ Z.vm.findClass K = some t ∧ Z.vm.assignable c t = false := by
  obtain ⟨c, t, h0, g0, n3⟩ := nn
  obtain ⟨p, k, kp, h1, h2, h3, h4, h5, -, h7⟩ := Cond.superclass_spec h0 w
  obtain ⟨t', k', g1, g2, g5, g7, -⟩ := Cond.instantiable_spec wk
  cases g0.symm.trans g1
  have ne := ids_ne h0 g0 hn
  refine ⟨c, t, h0, g0, ?_⟩
  show Z.vm.assignableAux (255 + 1) c t = false
  have g8 : k'.isInterface = false := (Bool.or_eq_false_iff.mp g7).1
  simp [Vm.assignableAux, ne, h2, g2, h5, g5, g8, Vm.isSubclass, n3]
def own_Mir (Z : State) (C : String) (m : Addr) : Prop := ∃ (c : ClassId) (k : Class), Z.vm.findClass C = some c ∧ Z.vm.classes[c]? = some k ∧ k.mirror = some m
theorem own_mir {Z s : State} {C : String} {mr : Addr} {args : Array Value} (hZ : Z.Warmed39 s.vm) (M : own_Mir Z C mr) : (Term.mirror C).eval args s none [] s = some (.ref mr) := by
  obtain ⟨c, k, m1, m2, m3⟩ := M
  obtain ⟨k', q, ek⟩ := hZ.alike.2.2 _ _ m2
  have h1 : s.vm.findClass C = some c := by rw [hZ.alike.findClass]; exact m1
  have h2 : k'.mirror = some mr := by rw [ek]; exact m3
  simp [Term.eval, h1, q, h2]
theorem own_gcls {p : Program} {l : Launch} {e : Env} {R : Room} {s : State} {m : MethodId} {args : Array Value} {below : List Frame} {meth : Method} {c : Code} {T : State} {locs : List Loc} {cells slots : Nat} {Z : State} {h : Heap} {a : Addr} (X : Stand p l e R s m args below meth c T locs cells slots) (hx : p.tables.exec = Jvm.exec) (hZ : Z.Warmed39 s.vm) {a0 : Array Value} {own C : String} {index : Nat} (hown : s.vm.findClass own = some m.cls)
    (w1 : (Jvm.Cond.methodLink own index ⟨"java/lang/Object", "getClass", "()Ljava/lang/Class;"⟩).before a0 Z = true) (w2 : (Jvm.Cond.declares ⟨"java/lang/Object", "getClass", "()Ljava/lang/Class;"⟩).before a0 Z = true) (w3 : (Jvm.Cond.noSuperclass "java/lang/Object").before a0 Z = true) (w4 : (Jvm.Cond.selects C ⟨"java/lang/Object", "getClass", "()Ljava/lang/Class;"⟩ ⟨"java/lang/Object", "getClass", "()Ljava/lang/Class;"⟩).before a0 Z = true)
    (w5 : (Jvm.Cond.instanceMethod ⟨"java/lang/Object", "getClass", "()Ljava/lang/Class;"⟩).before a0 Z = true) (w6 : (Jvm.Cond.native ⟨"java/lang/Object", "getClass", "()Ljava/lang/Class;"⟩).before a0 Z = true) (eT : T.heap = h) (E : Exa Z h a C) {mr : Addr} (M : own_Mir Z C mr)
    {g : JFrame} (hg : g.method = m) (hsize : g.locals.size = c.maxLocals) {rest : List Value} (hs : g.stack = .ref a :: rest) (hd : decode c.code g.pc = .ok (.invokevirtual index, 3)) (hf : 1 ≤ R.frames) {W : Nat} (hW : 2 * g.monitorRoom + (rest.map fun v => v.category).sum ≤ W) (hl : W + (nativeFrameWords "java/lang/Object" "getClass" 1 + 11) ≤ R.locals) :
    ∃ T', Stand p l e R s m args below meth c T' locs cells slots ∧ T'.heap = h ∧ ∀ target, Steps p.tables e below (T'.setTop { g with pc := g.pc + 3, stack := .ref mr :: rest }) target → Steps p.tables e below (T.setTop g) target := by
  obtain ⟨cB, kB, i1, i2, i3⟩ := isOf hZ eT E
  obtain ⟨cc, kc, m1, m2, m3⟩ := M
  have j1 : s.vm.findClass C = some cc := by rw [hZ.alike.findClass]; exact m1
  obtain rfl : cc = cB := Option.some.inj (j1.symm.trans i1)
  obtain ⟨k', q, ek⟩ := hZ.alike.2.2 _ _ m2
  obtain ⟨vm', X', st⟩ := X.getClassOf hx hown (mvT hZ w1) (mvT hZ w2) (nf_top (args := #[]) (mvT hZ w3)) (mvT hZ w4) (mvT hZ w5) (mvT hZ w6) j1 i3 q (by rw [ek]; exact m3) hg hsize hs hd hf (by omega)
  exact ⟨_, X', eT, st⟩
theorem own_cat {v : Value} (h : v.isRef = true) : v.category = 1 := by cases v <;> simp_all [Value.isRef, Value.category]
theorem own_fits_ref {ty : FieldType} {v : Value} (ht : refKind ty = true) (h : v.isRef = true) : fits ty v = true := by cases ty <;> cases v <;> simp_all [refKind, fits, Value.isRef]
theorem own_all0 : ∀ c ∈ ([] : List Int32), ¬ c < 0 ∧ ¬ (255 : Int32) < c := fun _ q => nomatch q
theorem own_allC {a : Int32} {L : List Int32} (h : ¬ a < 0 ∧ ¬ (255 : Int32) < a) (r : ∀ c ∈ L, ¬ c < 0 ∧ ¬ (255 : Int32) < c) : ∀ c ∈ a :: L, ¬ c < 0 ∧ ¬ (255 : Int32) < c := fun x z => (List.mem_cons.mp z).elim (fun u => u ▸ h) (r x)
theorem own_up {cs : List Int32} (h : ∀ c ∈ cs, ¬ c < 0 ∧ ¬ (255 : Int32) < c) : ∀ c ∈ cs, ¬ c < 0 ∧ ¬ (65535 : Int32) < c := fun c hc => ⟨(h c hc).1, fun q => (h c hc).2 (by rw [Int32.lt_iff_toInt_lt] at q ⊢; have e1 : (65535 : Int32).toInt = 65535 := rfl; have e2 : (255 : Int32).toInt = 255 := rfl; omega)⟩
theorem own_chr (x : Int32) {z : Int32} (h : z = ((x &&& (255 : Int32)).toUInt32.toUInt16.toUInt32.toInt32)) : (¬ z < 0 ∧ ¬ (255 : Int32) < z) ∧ nar .char z = z := by
  subst h
  rw [i2c_mask]
  have h1 : (x &&& (255 : Int32)).toInt = x.toInt % 2 ^ 8 := Jvm.Kit.i32_mask x 255 (k := 8) (by decide) (by decide)
  have e0 : (0 : Int32).toInt = 0 := by decide
  have e1 : (255 : Int32).toInt = 255 := by decide
  refine ⟨⟨?_, ?_⟩, i2c_mask x⟩ <;> rw [Int32.lt_iff_toInt_lt] <;> omega
theorem own_eqv {v : Option Value} {cs ds : List Int32} (h : (v = some (.int 1) ∧ cs = ds) ∨ (v = some (.int 0) ∧ ¬ cs = ds)) : v = some (.int (if cs = ds then (1 : Int32) else 0)) := by
  rcases h with ⟨rfl, h⟩ | ⟨rfl, h⟩
  · rw [if_pos h]
  · rw [if_neg h]
section OwnStr
variable {Z : State} {h h' : Heap} {x t a : Addr} {kb : ClassId} {cs : List Int32} {sl : Nat} {v : Value} {ws : List Addr}
/-- the String at x, her byte[] at t, spells cs -/
def own_Str (Z : State) (h : Heap) (x t : Addr) (kb : ClassId) (cs : List Int32) : Prop :=
  Exa Z h x "java/lang/String" ∧ Fld Z h x "java/lang/String" "value" "[B" (.ref t) ∧ Fld Z h x "java/lang/String" "coder" "B" (.int 0) ∧ Arv Z h t kb .byte (Int32.ofNat cs.length) ((cs.map fun c => c.toInt8.toInt32).map Value.int) (.int 0) ∧ (∀ c ∈ cs, ¬ c < 0 ∧ ¬ (255 : Int32) < c) ∧ cs.length ≤ 4000
theorem own_Str.ext (F : own_Str Z h x t kb cs) (E : Ext h h') : own_Str Z h' x t kb cs := ⟨F.1.ext E, F.2.1.ext E, F.2.2.1.ext E, F.2.2.2.1.ext E, F.2.2.2.2⟩
theorem own_Str.keep (F : own_Str Z h x t kb cs) (K : Keep h h' ws) (q : x ∉ ws) (r : t ∉ ws) : own_Str Z h' x t kb cs := ⟨F.1.keep K, F.2.1.keep K q, F.2.2.1.keep K q, F.2.2.2.1.keep K r, F.2.2.2.2⟩
theorem own_Str.other (F : own_Str Z h x t kb cs) (W : Wr h h' a sl v) (q : x ≠ a) (r : t ≠ a) : own_Str Z h' x t kb cs := ⟨F.1.wr W, F.2.1.other W (Or.inl q), F.2.2.1.other W (Or.inl q), F.2.2.2.1.other W r, F.2.2.2.2⟩
/-- null, or a String -/
def own_NS (Z : State) (h : Heap) (v : Value) : Prop := v = .null ∨ ∃ a, v = .ref a ∧ Exa Z h a "java/lang/String"
theorem own_NS.ref (F : own_NS Z h v) : v.isRef = true := by rcases F with rfl | ⟨a, rfl, -⟩ <;> rfl
theorem own_NS.ext (F : own_NS Z h v) (E : Ext h h') : own_NS Z h' v := F.imp id fun ⟨a, e, X⟩ => ⟨a, e, X.ext E⟩
theorem own_NS.wr {w : Value} (F : own_NS Z h v) (W : Wr h h' a sl w) : own_NS Z h' v := F.imp id fun ⟨a, e, X⟩ => ⟨a, e, X.wr W⟩
theorem own_NS.keep (F : own_NS Z h v) (K : Keep h h' ws) : own_NS Z h' v := F.imp id fun ⟨a, e, X⟩ => ⟨a, e, X.keep K⟩
end OwnStr
theorem own_narif {P : Prop} [Decidable P] : nar .boolean (if P then (1 : Int32) else 0) = (if P then (1 : Int32) else 0) := by split <;> decide
theorem own_narb {P : Prop} [Decidable P] {z : Int32} (h : z = (if P then (0 : Int32) else (1 : Int32))) : nar .boolean z = z := by subst h; split <;> decide
theorem own_d_prog_27_method_1_code_0 : decode prog_27_method_1_code 0 = .ok (.aload_n 0, 1) := by decide +kernel
theorem own_d_prog_27_method_1_code_1 : decode prog_27_method_1_code 1 = .ok (.invokespecial 1, 3) := by decide +kernel
theorem own_d_prog_27_method_1_code_4 : decode prog_27_method_1_code 4 = .ok (.aload_n 0, 1) := by decide +kernel
theorem own_d_prog_27_method_1_code_5 : decode prog_27_method_1_code 5 = .ok (.aload_n 1, 1) := by decide +kernel
theorem own_d_prog_27_method_1_code_6 : decode prog_27_method_1_code 6 = .ok (.putfield 7, 3) := by decide +kernel
theorem own_d_prog_27_method_1_code_9 : decode prog_27_method_1_code 9 = .ok (.aload_n 0, 1) := by decide +kernel
theorem own_d_prog_27_method_1_code_10 : decode prog_27_method_1_code 10 = .ok (.lload_n 2, 1) := by decide +kernel
theorem own_d_prog_27_method_1_code_11 : decode prog_27_method_1_code 11 = .ok (.putfield 13, 3) := by decide +kernel
theorem own_d_prog_27_method_1_code_14 : decode prog_27_method_1_code 14 = .ok (.aload_n 0, 1) := by decide +kernel
theorem own_d_prog_27_method_1_code_15 : decode prog_27_method_1_code 15 = .ok (.iload 4, 2) := by decide +kernel
theorem own_d_prog_27_method_1_code_17 : decode prog_27_method_1_code 17 = .ok (.putfield 17, 3) := by decide +kernel
theorem own_d_prog_27_method_1_code_20 : decode prog_27_method_1_code 20 = .ok (.aload_n 0, 1) := by decide +kernel
theorem own_d_prog_27_method_1_code_21 : decode prog_27_method_1_code 21 = .ok (.aload 5, 2) := by decide +kernel
theorem own_d_prog_27_method_1_code_23 : decode prog_27_method_1_code 23 = .ok (.putfield 21, 3) := by decide +kernel
theorem own_d_prog_27_method_1_code_26 : decode prog_27_method_1_code 26 = .ok (.aload_n 0, 1) := by decide +kernel
theorem own_d_prog_27_method_1_code_27 : decode prog_27_method_1_code 27 = .ok (.aload 6, 2) := by decide +kernel
theorem own_d_prog_27_method_1_code_29 : decode prog_27_method_1_code 29 = .ok (.putfield 24, 3) := by decide +kernel
theorem own_d_prog_27_method_1_code_32 : decode prog_27_method_1_code 32 = .ok (.return_, 1) := by decide +kernel
theorem own_d_prog_27_method_2_code_0 : decode prog_27_method_2_code 0 = .ok (.new 8, 3) := by decide +kernel
theorem own_d_prog_27_method_2_code_3 : decode prog_27_method_2_code 3 = .ok (.dup, 1) := by decide +kernel
theorem own_d_prog_27_method_2_code_4 : decode prog_27_method_2_code 4 = .ok (.aload_n 0, 1) := by decide +kernel
theorem own_d_prog_27_method_2_code_5 : decode prog_27_method_2_code 5 = .ok (.lload_n 1, 1) := by decide +kernel
theorem own_d_prog_27_method_2_code_6 : decode prog_27_method_2_code 6 = .ok (.iload_n 3, 1) := by decide +kernel
theorem own_d_prog_27_method_2_code_7 : decode prog_27_method_2_code 7 = .ok (.aconst_null, 1) := by decide +kernel
theorem own_d_prog_27_method_2_code_8 : decode prog_27_method_2_code 8 = .ok (.aconst_null, 1) := by decide +kernel
theorem own_d_prog_27_method_2_code_9 : decode prog_27_method_2_code 9 = .ok (.invokespecial 28, 3) := by decide +kernel
theorem own_pd0 : parseMethodDescriptor "(Ljava/lang/String;JZLjava/lang/String;Lcom/example/holdfast/holdfast/HoldfastException$Reason;)V" = some ⟨[(.object "java/lang/String"), .long, .boolean, (.object "java/lang/String"), (.object "com/example/holdfast/holdfast/HoldfastException$Reason")], none⟩ := by decide +kernel
theorem own_d_prog_27_method_2_code_12 : decode prog_27_method_2_code 12 = .ok (.areturn, 1) := by decide +kernel
theorem own_d_prog_27_method_9_code_0 : decode prog_27_method_9_code 0 = .ok (.aload_n 0, 1) := by decide +kernel
theorem own_d_prog_27_method_9_code_1 : decode prog_27_method_9_code 1 = .ok (.getfield 21, 3) := by decide +kernel
theorem own_d_prog_27_method_9_code_4 : decode prog_27_method_9_code 4 = .ok (.areturn, 1) := by decide +kernel
theorem own_d_prog_27_method_6_code_0 : decode prog_27_method_6_code 0 = .ok (.aload_n 0, 1) := by decide +kernel
theorem own_d_prog_27_method_6_code_1 : decode prog_27_method_6_code 1 = .ok (.getfield 7, 3) := by decide +kernel
theorem own_d_prog_27_method_6_code_4 : decode prog_27_method_6_code 4 = .ok (.areturn, 1) := by decide +kernel
theorem own_d_prog_27_method_7_code_0 : decode prog_27_method_7_code 0 = .ok (.aload_n 0, 1) := by decide +kernel
theorem own_d_prog_27_method_7_code_1 : decode prog_27_method_7_code 1 = .ok (.getfield 13, 3) := by decide +kernel
theorem own_d_prog_27_method_7_code_4 : decode prog_27_method_7_code 4 = .ok (.lreturn, 1) := by decide +kernel
theorem own_d_prog_27_method_8_code_0 : decode prog_27_method_8_code 0 = .ok (.aload_n 0, 1) := by decide +kernel
theorem own_d_prog_27_method_8_code_1 : decode prog_27_method_8_code 1 = .ok (.getfield 17, 3) := by decide +kernel
theorem own_d_prog_27_method_8_code_4 : decode prog_27_method_8_code 4 = .ok (.ireturn, 1) := by decide +kernel
theorem own_d_prog_27_method_5_code_0 : decode prog_27_method_5_code 0 = .ok (.aload_n 0, 1) := by decide +kernel
theorem own_d_prog_27_method_5_code_1 : decode prog_27_method_5_code 1 = .ok (.getfield 21, 3) := by decide +kernel
theorem own_d_prog_27_method_5_code_4 : decode prog_27_method_5_code 4 = .ok (.ifnonnull 7, 3) := by decide +kernel
theorem own_d_prog_27_method_5_code_7 : decode prog_27_method_5_code 7 = .ok (.iconst 1, 1) := by decide +kernel
theorem own_d_prog_27_method_5_code_8 : decode prog_27_method_5_code 8 = .ok (.goto 4, 3) := by decide +kernel
theorem own_d_prog_27_method_5_code_12 : decode prog_27_method_5_code 12 = .ok (.ireturn, 1) := by decide +kernel
theorem own_d_prog_27_method_11_code_0 : decode prog_27_method_11_code 0 = .ok (.aload_n 0, 1) := by decide +kernel
theorem own_d_prog_27_method_11_code_1 : decode prog_27_method_11_code 1 = .ok (.invokevirtual 37, 3) := by decide +kernel
theorem own_pd1 : parseMethodDescriptor "()Z" = some ⟨[], some .boolean⟩ := by decide +kernel
theorem own_d_prog_27_method_11_code_4 : decode prog_27_method_11_code 4 = .ok (.ifCond .eq 25, 3) := by decide +kernel
theorem own_d_prog_27_method_11_code_7 : decode prog_27_method_11_code 7 = .ok (.aload_n 1, 1) := by decide +kernel
theorem own_d_prog_27_method_11_code_8 : decode prog_27_method_11_code 8 = .ok (.invokevirtual 37, 3) := by decide +kernel
theorem own_d_prog_27_method_11_code_11 : decode prog_27_method_11_code 11 = .ok (.ifCond .eq 18, 3) := by decide +kernel
theorem own_d_prog_27_method_11_code_14 : decode prog_27_method_11_code 14 = .ok (.aload_n 0, 1) := by decide +kernel
theorem own_d_prog_27_method_11_code_15 : decode prog_27_method_11_code 15 = .ok (.getfield 7, 3) := by decide +kernel
theorem own_d_prog_27_method_11_code_18 : decode prog_27_method_11_code 18 = .ok (.aload_n 1, 1) := by decide +kernel
theorem own_d_prog_27_method_11_code_19 : decode prog_27_method_11_code 19 = .ok (.getfield 7, 3) := by decide +kernel
theorem own_d_prog_27_method_11_code_22 : decode prog_27_method_11_code 22 = .ok (.invokevirtual 41, 3) := by decide +kernel
theorem own_in_wordsEq : ∀ d ∈ StrChars.Road.wordsEq, d ∈ tables_1 := by decide +kernel
theorem own_pd2 : parseMethodDescriptor "(Ljava/lang/Object;)Z" = some ⟨[(.object "java/lang/Object")], some .boolean⟩ := by decide +kernel
theorem own_d_prog_27_method_11_code_25 : decode prog_27_method_11_code 25 = .ok (.istore_n 2, 1) := by decide +kernel
theorem own_d_prog_27_method_11_code_26 : decode prog_27_method_11_code 26 = .ok (.goto 20, 3) := by decide +kernel
theorem own_d_prog_27_method_11_code_46 : decode prog_27_method_11_code 46 = .ok (.iload_n 2, 1) := by decide +kernel
theorem own_d_prog_27_method_11_code_47 : decode prog_27_method_11_code 47 = .ok (.ireturn, 1) := by decide +kernel
theorem own_in_words : ∀ d ∈ StrChars.Road.words, d ∈ tables_1 := by decide +kernel
theorem own_pd3 : parseMethodDescriptor "([C)V" = some ⟨[(.array .char)], none⟩ := by decide +kernel
theorem own_pd4 : parseMethodDescriptor "(Ljava/lang/String;JZ)Lcom/example/holdfast/holdfast/ServerRun;" = some ⟨[(.object "java/lang/String"), .long, .boolean], some (.object "com/example/holdfast/holdfast/ServerRun")⟩ := by decide +kernel
theorem own_pd5 : parseMethodDescriptor "()Ljava/lang/String;" = some ⟨[], some (.object "java/lang/String")⟩ := by decide +kernel
theorem own_pd6 : parseMethodDescriptor "()J" = some ⟨[], some .long⟩ := by decide +kernel
theorem own_pd7 : parseMethodDescriptor "(Lcom/example/holdfast/holdfast/ServerRun;)Z" = some ⟨[(.object "com/example/holdfast/holdfast/ServerRun")], some .boolean⟩ := by decide +kernel
theorem own_pn_own_init : plainName "com/example/holdfast/holdfast/ServerRun" = true := by first | (simp [plainName, overriddenIn]; done) | decide +kernel
theorem own_ef_own_init (m : MethodId) (a : Addr) (s1 : Value) (nn : Int64) (pb : Int32) (s2 : Value) (s3 : Value) (hcv0 : s1.category = 1) (hcv1 : s2.category = 1) (hcv2 : s3.category = 1) : entryFrame m #[(.ref a), s1, (.long nn), (.int pb), s2, s3] 7 = mkF m 0 #[.val (.ref a), .val s1, .val (.long nn), .second, .val (.int pb), .val s2, .val s3] [] := by first | (simp [entryFrame, mkF, argsToLocals, own_cI, own_cJ, own_cR, own_cN, hcv0, hcv1, hcv2]; done) | rfl
abbrev own_F_own_init (m : MethodId) (a : Addr) (s1 : Value) (nn : Int64) (pb : Int32) (s2 : Value) (s3 : Value) : JFrame := entryFrame m #[(.ref a), s1, (.long nn), (.int pb), s2, s3] 7
def Q_own_init (Z : State) (a : Addr) (s1 : Value) (nn : Int64) (pb : Int32) (s2 : Value) (s3 : Value) (h0 : Heap) (n0 : Nat) (v : Option Value) (h : Heap) (L : List Loc) : Prop := v = none ∧ Fr n0 L ∧ Keep h0 h [a] ∧ (Exa Z h a "com/example/holdfast/holdfast/ServerRun") ∧ (Fld Z h a "com/example/holdfast/holdfast/ServerRun" "id" "Ljava/lang/String;" s1) ∧ (Fld Z h a "com/example/holdfast/holdfast/ServerRun" "begunByNanos" "J" (.long nn)) ∧ (Fld Z h a "com/example/holdfast/holdfast/ServerRun" "persistsEveryWrite" "Z" (.int (nar .boolean pb))) ∧ (Fld Z h a "com/example/holdfast/holdfast/ServerRun" "unknownBecause" "Ljava/lang/String;" s2) ∧ (Fld Z h a "com/example/holdfast/holdfast/ServerRun" "refusal" "Lcom/example/holdfast/holdfast/HoldfastException$Reason;" s3)
set_option maxRecDepth 65536 in
set_option maxHeartbeats 40000000 in
theorem own_init (l : Launch) (Z : State) (a0 : Array Value) (hw : ∀ d ∈ tables_1, d.before a0 Z = true) (ws : List Jvm.Cond) (a : Addr) (s1 : Value) (nn : Int64) (pb : Int32) (s2 : Value) (s3 : Value) (h0 : Heap) (n0 : Nat) (O0 : Old Z n0 h0) (hs1 : s1.isRef = true) (hs2 : s2.isRef = true) (hs3 : s3.isRef = true) (hp3 : Exa Z h0 a "com/example/holdfast/holdfast/ServerRun") (hp4 : n0 ≤ a) (hp5 : Fld Z h0 a "com/example/holdfast/holdfast/ServerRun" "id" "Ljava/lang/String;" .null) (hp6 : Fld Z h0 a "com/example/holdfast/holdfast/ServerRun" "begunByNanos" "J" (.long (0 : Int64))) (hp7 : Fld Z h0 a "com/example/holdfast/holdfast/ServerRun" "persistsEveryWrite" "Z" (.int (0 : Int32))) (hp8 : Fld Z h0 a "com/example/holdfast/holdfast/ServerRun" "unknownBecause" "Ljava/lang/String;" .null) (hp9 : Fld Z h0 a "com/example/holdfast/holdfast/ServerRun" "refusal" "Lcom/example/holdfast/holdfast/HoldfastException$Reason;" .null) :
    MetFree l (⟨"com/example/holdfast/holdfast/ServerRun", "<init>", "(Ljava/lang/String;JZLjava/lang/String;Lcom/example/holdfast/holdfast/HoldfastException$Reason;)V"⟩ : MethodName) (head1 (Jvm.Cond.code (⟨"com/example/holdfast/holdfast/ServerRun", "<init>", "(Ljava/lang/String;JZLjava/lang/String;Lcom/example/holdfast/holdfast/HoldfastException$Reason;)V"⟩ : MethodName) prog_27_method_1_code 7 none :: ws) ({ frames := 1, cells := 0, slots := 0, locals := 12 } : Room)) (fun aa_ U_ => aa_ = #[(.ref a), s1, (.long nn), (.int pb), s2, s3] ∧ Z.Warmed39 U_.vm ∧ U_.heap = h0) (fun _ _ _ _ _ => True) (fun _ U_ o_ V_ => ∃ v_ L_, o_ = .returned v_ ∧ Q_own_init Z a s1 nn pb s2 s3 h0 n0 v_ V_.heap L_ ∧ FrameEnd U_ o_ V_ L_ ({ frames := 1, cells := 0, slots := 0, locals := 12 } : Room).cells ({ frames := 1, cells := 0, slots := 0, locals := 12 } : Room).slots) := by
  refine MetFree.of_bodySF (plainFor_of_name own_pn_own_init) hisR ?_
  intro p e s m args below meth c s₁ Bd hml0 hP hK
  obtain ⟨rfl, hZ, hh⟩ := hP
  have hx := Bd.exec
  have hby := Bd.bytes
  have hml : c.maxLocals = 7 := hml0
  have hown : s.vm.findClass "com/example/holdfast/holdfast/ServerRun" = some m.cls := findClass_of_methodNamed Bd.named
  have hnm := (name_of_methodNamed Bd.named Bd.method).1
  have X0 : Stand p l e ({ frames := 1, cells := 0, slots := 0, locals := 12 } : Room) s m #[(.ref a), s1, (.long nn), (.int pb), s2, s3] below meth c s₁ [] 0 0 := Stand.of_body Bd
  have e0 : s₁.heap = h0 := by rw [← hh, Bd.state]; rfl
  have N0 := Fr.nil n0
  have K0 : Keep h0 h0 [a] := Keep.refl _ _
  have r0 : GoTo p.tables e below s₁ (own_F_own_init m a s1 nn pb s2 s3) s₁ (mkF m 0 #[.val (.ref a), .val s1, .val (.long nn), .second, .val (.int pb), .val s2, .val s3] []) := fun tt_ kk_ => castTop (own_ef_own_init m a s1 nn pb s2 s3 (own_cat hs1) (own_cat hs2) (own_cat hs3)) kk_
  obtain ⟨T1, X1, e1, st1⟩ := initO X0 hx hZ hown (hw _ (List.mem_of_getElem? (i := 39) rfl)) (hw _ (List.mem_of_getElem? (i := 12) rfl)) (hw _ (List.mem_of_getElem? (i := 13) rfl)) e0 (g := (mkF m 1 #[.val (.ref a), .val s1, .val (.long nn), .second, .val (.int pb), .val s2, .val s3] [(.ref a)])) rfl (by rw [hml]; rfl) rfl (hb hby own_d_prog_27_method_1_code_1) (by decide) (W := 0) (by show 2 * 0 + _ ≤ _; exact Nat.le_of_eq rfl) (by decide)
  obtain ⟨T2, h2, X2, e2, W2, st2⟩ := putF X1 hx hZ hown (host := "") (Or.inl (hw _ (List.mem_of_getElem? (i := 40) rfl))) Via.refl e1 hp5 hp3 (Or.inr ⟨(hw _ (List.mem_of_getElem? (i := 41) rfl)), rfl, hnm⟩) (hw _ (List.mem_of_getElem? (i := 35) rfl)) (ty := (.object "java/lang/String")) (by decide) rfl (own_fits_ref (by decide) hs1) (g := (mkF m 6 #[.val (.ref a), .val s1, .val (.long nn), .second, .val (.int pb), .val s2, .val s3] [s1, (.ref a)])) rfl rfl (hb hby own_d_prog_27_method_1_code_6)
  have K3 : Keep h0 h2 [a] := K0.wr W2 (Or.inl (List.mem_of_getElem? (i := 0) rfl))
  have Fw2 : Fld Z h2 a "com/example/holdfast/holdfast/ServerRun" "id" "Ljava/lang/String;" s1 := hp5.same W2
  have N2 := Fr.snoc X2 N0 hp4
  have f4 : Fld Z h2 a "com/example/holdfast/holdfast/ServerRun" "begunByNanos" "J" (.long (0 : Int64)) := (hp6.other W2 (Or.inr (Jvm.RoadKit.slot_ne (Or.inr (hw _ (List.mem_of_getElem? (i := 43) rfl))) (Or.inr (hw _ (List.mem_of_getElem? (i := 41) rfl))) (by decide) (t := .long) (t' := (.object "java/lang/String")) (by decide) (by decide))))
  have f5 : Exa Z h2 a "com/example/holdfast/holdfast/ServerRun" := (hp3.wr W2)
  obtain ⟨T6, h6, X6, e6, W6, st6⟩ := putF X2 hx hZ hown (host := "") (Or.inl (hw _ (List.mem_of_getElem? (i := 42) rfl))) Via.refl e2 f4 f5 (Or.inr ⟨(hw _ (List.mem_of_getElem? (i := 43) rfl)), rfl, hnm⟩) (hw _ (List.mem_of_getElem? (i := 35) rfl)) (ty := .long) (by decide) rfl rfl (g := (mkF m 11 #[.val (.ref a), .val s1, .val (.long nn), .second, .val (.int pb), .val s2, .val s3] [(.long nn), (.ref a)])) rfl rfl (hb hby own_d_prog_27_method_1_code_11)
  have K7 : Keep h0 h6 [a] := K3.wr W6 (Or.inl (List.mem_of_getElem? (i := 0) rfl))
  have Fw6 : Fld Z h6 a "com/example/holdfast/holdfast/ServerRun" "begunByNanos" "J" (.long nn) := f4.same W6
  have N6 := Fr.snoc X6 N2 hp4
  have f8 : Fld Z h6 a "com/example/holdfast/holdfast/ServerRun" "persistsEveryWrite" "Z" (.int (0 : Int32)) := ((hp7.other W2 (Or.inr (Jvm.RoadKit.slot_ne (Or.inr (hw _ (List.mem_of_getElem? (i := 45) rfl))) (Or.inr (hw _ (List.mem_of_getElem? (i := 41) rfl))) (by decide) (t := .boolean) (t' := (.object "java/lang/String")) (by decide) (by decide)))).other W6 (Or.inr (Jvm.RoadKit.slot_ne (Or.inr (hw _ (List.mem_of_getElem? (i := 45) rfl))) (Or.inr (hw _ (List.mem_of_getElem? (i := 43) rfl))) (by decide) (t := .boolean) (t' := .long) (by decide) (by decide))))
  have f9 : Exa Z h6 a "com/example/holdfast/holdfast/ServerRun" := (f5.wr W6)
  obtain ⟨T10, h10, X10, e10, W10, st10⟩ := putFN X6 hx hZ hown (hw _ (List.mem_of_getElem? (i := 44) rfl)) Via.refl e6 f8 f9 (Or.inr ⟨(hw _ (List.mem_of_getElem? (i := 45) rfl)), rfl, hnm⟩) (hw _ (List.mem_of_getElem? (i := 35) rfl)) (ty := .boolean) (v' := (.int (nar .boolean pb))) (by decide) rfl (fits_nar_bool _) (g := (mkF m 17 #[.val (.ref a), .val s1, .val (.long nn), .second, .val (.int pb), .val s2, .val s3] [(.int pb), (.ref a)])) rfl rfl (hb hby own_d_prog_27_method_1_code_17)
  have K11 : Keep h0 h10 [a] := K7.wr W10 (Or.inl (List.mem_of_getElem? (i := 0) rfl))
  have Fw10 : Fld Z h10 a "com/example/holdfast/holdfast/ServerRun" "persistsEveryWrite" "Z" (.int (nar .boolean pb)) := f8.same W10
  have N10 := Fr.snoc X10 N6 hp4
  have f12 : Fld Z h10 a "com/example/holdfast/holdfast/ServerRun" "unknownBecause" "Ljava/lang/String;" .null := (((hp8.other W2 (Or.inr (Jvm.RoadKit.slot_ne (Or.inr (hw _ (List.mem_of_getElem? (i := 47) rfl))) (Or.inr (hw _ (List.mem_of_getElem? (i := 41) rfl))) (by decide) (t := (.object "java/lang/String")) (t' := (.object "java/lang/String")) (by decide) (by decide)))).other W6 (Or.inr (Jvm.RoadKit.slot_ne (Or.inr (hw _ (List.mem_of_getElem? (i := 47) rfl))) (Or.inr (hw _ (List.mem_of_getElem? (i := 43) rfl))) (by decide) (t := (.object "java/lang/String")) (t' := .long) (by decide) (by decide)))).other W10 (Or.inr (Jvm.RoadKit.slot_ne (Or.inr (hw _ (List.mem_of_getElem? (i := 47) rfl))) (Or.inr (hw _ (List.mem_of_getElem? (i := 45) rfl))) (by decide) (t := (.object "java/lang/String")) (t' := .boolean) (by decide) (by decide))))
  have f13 : Exa Z h10 a "com/example/holdfast/holdfast/ServerRun" := (f9.wr W10)
  obtain ⟨T14, h14, X14, e14, W14, st14⟩ := putF X10 hx hZ hown (host := "") (Or.inl (hw _ (List.mem_of_getElem? (i := 46) rfl))) Via.refl e10 f12 f13 (Or.inr ⟨(hw _ (List.mem_of_getElem? (i := 47) rfl)), rfl, hnm⟩) (hw _ (List.mem_of_getElem? (i := 35) rfl)) (ty := (.object "java/lang/String")) (by decide) rfl (own_fits_ref (by decide) hs2) (g := (mkF m 23 #[.val (.ref a), .val s1, .val (.long nn), .second, .val (.int pb), .val s2, .val s3] [s2, (.ref a)])) rfl rfl (hb hby own_d_prog_27_method_1_code_23)
  have K15 : Keep h0 h14 [a] := K11.wr W14 (Or.inl (List.mem_of_getElem? (i := 0) rfl))
  have Fw14 : Fld Z h14 a "com/example/holdfast/holdfast/ServerRun" "unknownBecause" "Ljava/lang/String;" s2 := f12.same W14
  have N14 := Fr.snoc X14 N10 hp4
  have f16 : Fld Z h14 a "com/example/holdfast/holdfast/ServerRun" "refusal" "Lcom/example/holdfast/holdfast/HoldfastException$Reason;" .null := ((((hp9.other W2 (Or.inr (Jvm.RoadKit.slot_ne (Or.inr (hw _ (List.mem_of_getElem? (i := 49) rfl))) (Or.inr (hw _ (List.mem_of_getElem? (i := 41) rfl))) (by decide) (t := (.object "com/example/holdfast/holdfast/HoldfastException$Reason")) (t' := (.object "java/lang/String")) (by decide) (by decide)))).other W6 (Or.inr (Jvm.RoadKit.slot_ne (Or.inr (hw _ (List.mem_of_getElem? (i := 49) rfl))) (Or.inr (hw _ (List.mem_of_getElem? (i := 43) rfl))) (by decide) (t := (.object "com/example/holdfast/holdfast/HoldfastException$Reason")) (t' := .long) (by decide) (by decide)))).other W10 (Or.inr (Jvm.RoadKit.slot_ne (Or.inr (hw _ (List.mem_of_getElem? (i := 49) rfl))) (Or.inr (hw _ (List.mem_of_getElem? (i := 45) rfl))) (by decide) (t := (.object "com/example/holdfast/holdfast/HoldfastException$Reason")) (t' := .boolean) (by decide) (by decide)))).other W14 (Or.inr (Jvm.RoadKit.slot_ne (Or.inr (hw _ (List.mem_of_getElem? (i := 49) rfl))) (Or.inr (hw _ (List.mem_of_getElem? (i := 47) rfl))) (by decide) (t := (.object "com/example/holdfast/holdfast/HoldfastException$Reason")) (t' := (.object "java/lang/String")) (by decide) (by decide))))
  have f17 : Exa Z h14 a "com/example/holdfast/holdfast/ServerRun" := (f13.wr W14)
  obtain ⟨T18, h18, X18, e18, W18, st18⟩ := putF X14 hx hZ hown (host := "") (Or.inl (hw _ (List.mem_of_getElem? (i := 48) rfl))) Via.refl e14 f16 f17 (Or.inr ⟨(hw _ (List.mem_of_getElem? (i := 49) rfl)), rfl, hnm⟩) (hw _ (List.mem_of_getElem? (i := 35) rfl)) (ty := (.object "com/example/holdfast/holdfast/HoldfastException$Reason")) (by decide) rfl (own_fits_ref (by decide) hs3) (g := (mkF m 29 #[.val (.ref a), .val s1, .val (.long nn), .second, .val (.int pb), .val s2, .val s3] [s3, (.ref a)])) rfl rfl (hb hby own_d_prog_27_method_1_code_29)
  have K19 : Keep h0 h18 [a] := K15.wr W18 (Or.inl (List.mem_of_getElem? (i := 0) rfl))
  have Fw18 : Fld Z h18 a "com/example/holdfast/holdfast/ServerRun" "refusal" "Lcom/example/holdfast/holdfast/HoldfastException$Reason;" s3 := f16.same W18
  have N18 := Fr.snoc X18 N14 hp4
  obtain ⟨fs, hr, hrun, hended, hW, hsame⟩ := X18.leave (v := none) (fun _ => rfl)
  refine ⟨_, _, r0 _ ?_, hrun, hended, _, _, rfl, ?_, ⟨_, rfl⟩, hW, hsame.mono (by decide) (by decide)⟩
  · show Steps p.tables e below (s₁.setTop (mkF m 0 #[.val (.ref a), .val s1, .val (.long nn), .second, .val (.int pb), .val s2, .val s3] [])) _
    refine XS.aloadN X0.here hx rfl (hb hby own_d_prog_27_method_1_code_0) rfl rfl ?_
    show Steps p.tables e below (s₁.setTop (mkF m 1 #[.val (.ref a), .val s1, .val (.long nn), .second, .val (.int pb), .val s2, .val s3] [(.ref a)])) _
    refine st1 _ ?_
    show Steps p.tables e below (T1.setTop (mkF m 4 #[.val (.ref a), .val s1, .val (.long nn), .second, .val (.int pb), .val s2, .val s3] [])) _
    refine XS.aloadN X1.here hx rfl (hb hby own_d_prog_27_method_1_code_4) rfl rfl ?_
    show Steps p.tables e below (T1.setTop (mkF m 5 #[.val (.ref a), .val s1, .val (.long nn), .second, .val (.int pb), .val s2, .val s3] [(.ref a)])) _
    refine XS.aloadN X1.here hx rfl (hb hby own_d_prog_27_method_1_code_5) rfl hs1 ?_
    show Steps p.tables e below (T1.setTop (mkF m 6 #[.val (.ref a), .val s1, .val (.long nn), .second, .val (.int pb), .val s2, .val s3] [s1, (.ref a)])) _
    refine st2 _ ?_
    show Steps p.tables e below (T2.setTop (mkF m 9 #[.val (.ref a), .val s1, .val (.long nn), .second, .val (.int pb), .val s2, .val s3] [])) _
    refine XS.aloadN X2.here hx rfl (hb hby own_d_prog_27_method_1_code_9) rfl rfl ?_
    show Steps p.tables e below (T2.setTop (mkF m 10 #[.val (.ref a), .val s1, .val (.long nn), .second, .val (.int pb), .val s2, .val s3] [(.ref a)])) _
    refine XS.lloadN X2.here hx rfl (hb hby own_d_prog_27_method_1_code_10) rfl ?_
    show Steps p.tables e below (T2.setTop (mkF m 11 #[.val (.ref a), .val s1, .val (.long nn), .second, .val (.int pb), .val s2, .val s3] [(.long nn), (.ref a)])) _
    refine st6 _ ?_
    show Steps p.tables e below (T6.setTop (mkF m 14 #[.val (.ref a), .val s1, .val (.long nn), .second, .val (.int pb), .val s2, .val s3] [])) _
    refine XS.aloadN X6.here hx rfl (hb hby own_d_prog_27_method_1_code_14) rfl rfl ?_
    show Steps p.tables e below (T6.setTop (mkF m 15 #[.val (.ref a), .val s1, .val (.long nn), .second, .val (.int pb), .val s2, .val s3] [(.ref a)])) _
    refine XS.iload X6.here hx rfl (hb hby own_d_prog_27_method_1_code_15) rfl ?_
    show Steps p.tables e below (T6.setTop (mkF m 17 #[.val (.ref a), .val s1, .val (.long nn), .second, .val (.int pb), .val s2, .val s3] [(.int pb), (.ref a)])) _
    refine st10 _ ?_
    show Steps p.tables e below (T10.setTop (mkF m 20 #[.val (.ref a), .val s1, .val (.long nn), .second, .val (.int pb), .val s2, .val s3] [])) _
    refine XS.aloadN X10.here hx rfl (hb hby own_d_prog_27_method_1_code_20) rfl rfl ?_
    show Steps p.tables e below (T10.setTop (mkF m 21 #[.val (.ref a), .val s1, .val (.long nn), .second, .val (.int pb), .val s2, .val s3] [(.ref a)])) _
    refine XS.aload X10.here hx rfl (hb hby own_d_prog_27_method_1_code_21) rfl hs2 ?_
    show Steps p.tables e below (T10.setTop (mkF m 23 #[.val (.ref a), .val s1, .val (.long nn), .second, .val (.int pb), .val s2, .val s3] [s2, (.ref a)])) _
    refine st14 _ ?_
    show Steps p.tables e below (T14.setTop (mkF m 26 #[.val (.ref a), .val s1, .val (.long nn), .second, .val (.int pb), .val s2, .val s3] [])) _
    refine XS.aloadN X14.here hx rfl (hb hby own_d_prog_27_method_1_code_26) rfl rfl ?_
    show Steps p.tables e below (T14.setTop (mkF m 27 #[.val (.ref a), .val s1, .val (.long nn), .second, .val (.int pb), .val s2, .val s3] [(.ref a)])) _
    refine XS.aload X14.here hx rfl (hb hby own_d_prog_27_method_1_code_27) rfl hs3 ?_
    show Steps p.tables e below (T14.setTop (mkF m 29 #[.val (.ref a), .val s1, .val (.long nn), .second, .val (.int pb), .val s2, .val s3] [s3, (.ref a)])) _
    refine st18 _ ?_
    show Steps p.tables e below (T18.setTop (mkF m 32 #[.val (.ref a), .val s1, .val (.long nn), .second, .val (.int pb), .val s2, .val s3] [])) _
    exact X18.returnOut hx Bd.returns (hb hby own_d_prog_27_method_1_code_32) hr
  · show Q_own_init Z a s1 nn pb s2 s3 h0 n0 _ T18.heap _
    rw [e18]
    have f20 : Exa Z h18 a "com/example/holdfast/holdfast/ServerRun" := (f17.wr W18)
    have f21 : Fld Z h18 a "com/example/holdfast/holdfast/ServerRun" "id" "Ljava/lang/String;" s1 := ((((Fw2.other W6 (Or.inr (Jvm.RoadKit.slot_ne (Or.inr (hw _ (List.mem_of_getElem? (i := 41) rfl))) (Or.inr (hw _ (List.mem_of_getElem? (i := 43) rfl))) (by decide) (t := (.object "java/lang/String")) (t' := .long) (by decide) (by decide)))).other W10 (Or.inr (Jvm.RoadKit.slot_ne (Or.inr (hw _ (List.mem_of_getElem? (i := 41) rfl))) (Or.inr (hw _ (List.mem_of_getElem? (i := 45) rfl))) (by decide) (t := (.object "java/lang/String")) (t' := .boolean) (by decide) (by decide)))).other W14 (Or.inr (Jvm.RoadKit.slot_ne (Or.inr (hw _ (List.mem_of_getElem? (i := 41) rfl))) (Or.inr (hw _ (List.mem_of_getElem? (i := 47) rfl))) (by decide) (t := (.object "java/lang/String")) (t' := (.object "java/lang/String")) (by decide) (by decide)))).other W18 (Or.inr (Jvm.RoadKit.slot_ne (Or.inr (hw _ (List.mem_of_getElem? (i := 41) rfl))) (Or.inr (hw _ (List.mem_of_getElem? (i := 49) rfl))) (by decide) (t := (.object "java/lang/String")) (t' := (.object "com/example/holdfast/holdfast/HoldfastException$Reason")) (by decide) (by decide))))
    have f22 : Fld Z h18 a "com/example/holdfast/holdfast/ServerRun" "begunByNanos" "J" (.long nn) := (((Fw6.other W10 (Or.inr (Jvm.RoadKit.slot_ne (Or.inr (hw _ (List.mem_of_getElem? (i := 43) rfl))) (Or.inr (hw _ (List.mem_of_getElem? (i := 45) rfl))) (by decide) (t := .long) (t' := .boolean) (by decide) (by decide)))).other W14 (Or.inr (Jvm.RoadKit.slot_ne (Or.inr (hw _ (List.mem_of_getElem? (i := 43) rfl))) (Or.inr (hw _ (List.mem_of_getElem? (i := 47) rfl))) (by decide) (t := .long) (t' := (.object "java/lang/String")) (by decide) (by decide)))).other W18 (Or.inr (Jvm.RoadKit.slot_ne (Or.inr (hw _ (List.mem_of_getElem? (i := 43) rfl))) (Or.inr (hw _ (List.mem_of_getElem? (i := 49) rfl))) (by decide) (t := .long) (t' := (.object "com/example/holdfast/holdfast/HoldfastException$Reason")) (by decide) (by decide))))
    have f23 : Fld Z h18 a "com/example/holdfast/holdfast/ServerRun" "persistsEveryWrite" "Z" (.int (nar .boolean pb)) := ((Fw10.other W14 (Or.inr (Jvm.RoadKit.slot_ne (Or.inr (hw _ (List.mem_of_getElem? (i := 45) rfl))) (Or.inr (hw _ (List.mem_of_getElem? (i := 47) rfl))) (by decide) (t := .boolean) (t' := (.object "java/lang/String")) (by decide) (by decide)))).other W18 (Or.inr (Jvm.RoadKit.slot_ne (Or.inr (hw _ (List.mem_of_getElem? (i := 45) rfl))) (Or.inr (hw _ (List.mem_of_getElem? (i := 49) rfl))) (by decide) (t := .boolean) (t' := (.object "com/example/holdfast/holdfast/HoldfastException$Reason")) (by decide) (by decide))))
    have f24 : Fld Z h18 a "com/example/holdfast/holdfast/ServerRun" "unknownBecause" "Ljava/lang/String;" s2 := (Fw14.other W18 (Or.inr (Jvm.RoadKit.slot_ne (Or.inr (hw _ (List.mem_of_getElem? (i := 47) rfl))) (Or.inr (hw _ (List.mem_of_getElem? (i := 49) rfl))) (by decide) (t := (.object "java/lang/String")) (t' := (.object "com/example/holdfast/holdfast/HoldfastException$Reason")) (by decide) (by decide))))
    exact ⟨rfl, N18, K19, f20, f21, f22, f23, f24, Fw18⟩
theorem own_pn_own_of : plainName "com/example/holdfast/holdfast/ServerRun" = true := by first | (simp [plainName, overriddenIn]; done) | decide +kernel
theorem own_ef_own_of (m : MethodId) (x : Addr) (nn : Int64) (pb : Int32) : entryFrame m #[(.ref x), (.long nn), (.int pb)] 4 = mkF m 0 #[.val (.ref x), .val (.long nn), .second, .val (.int pb)] [] := by first | (simp [entryFrame, mkF, argsToLocals, own_cI, own_cJ, own_cR, own_cN]; done) | rfl
abbrev own_F_own_of (m : MethodId) (x : Addr) (nn : Int64) (pb : Int32) : JFrame := entryFrame m #[(.ref x), (.long nn), (.int pb)] 4
def Q_own_of (Z : State) (x : Addr) (nn : Int64) (pb : Int32) (h0 : Heap) (n0 : Nat) (v : Option Value) (h : Heap) (L : List Loc) : Prop := ∃ (b : Addr), v = some (.ref b) ∧ Fr n0 L ∧ Keep h0 h [] ∧ (h0.size ≤ b) ∧ (n0 ≤ b) ∧ (Exa Z h b "com/example/holdfast/holdfast/ServerRun") ∧ (Fld Z h b "com/example/holdfast/holdfast/ServerRun" "id" "Ljava/lang/String;" (.ref x)) ∧ (Fld Z h b "com/example/holdfast/holdfast/ServerRun" "begunByNanos" "J" (.long nn)) ∧ (Fld Z h b "com/example/holdfast/holdfast/ServerRun" "persistsEveryWrite" "Z" (.int (nar .boolean pb))) ∧ (Fld Z h b "com/example/holdfast/holdfast/ServerRun" "unknownBecause" "Ljava/lang/String;" .null) ∧ (Fld Z h b "com/example/holdfast/holdfast/ServerRun" "refusal" "Lcom/example/holdfast/holdfast/HoldfastException$Reason;" .null)
set_option maxRecDepth 65536 in
set_option maxHeartbeats 40000000 in
theorem own_of (l : Launch) (Z : State) (a0 : Array Value) (hw : ∀ d ∈ tables_1, d.before a0 Z = true) (ws : List Jvm.Cond) (x : Addr) (nn : Int64) (pb : Int32) (h0 : Heap) (n0 : Nat) (O0 : Old Z n0 h0) :
    MetFree l (⟨"com/example/holdfast/holdfast/ServerRun", "of", "(Ljava/lang/String;JZ)Lcom/example/holdfast/holdfast/ServerRun;"⟩ : MethodName) (head1 (Jvm.Cond.code (⟨"com/example/holdfast/holdfast/ServerRun", "of", "(Ljava/lang/String;JZ)Lcom/example/holdfast/holdfast/ServerRun;"⟩ : MethodName) prog_27_method_2_code 4 (some (.object "com/example/holdfast/holdfast/ServerRun")) :: ws) ({ frames := 2, cells := 1, slots := 5, locals := 31 } : Room)) (fun aa_ U_ => aa_ = #[(.ref x), (.long nn), (.int pb)] ∧ Z.Warmed39 U_.vm ∧ U_.heap = h0) (fun _ _ _ _ _ => True) (fun _ U_ o_ V_ => ∃ v_ L_, o_ = .returned v_ ∧ Q_own_of Z x nn pb h0 n0 v_ V_.heap L_ ∧ FrameEnd U_ o_ V_ L_ ({ frames := 2, cells := 1, slots := 5, locals := 31 } : Room).cells ({ frames := 2, cells := 1, slots := 5, locals := 31 } : Room).slots) := by
  refine MetFree.of_bodySF (plainFor_of_name own_pn_own_of) hisR ?_
  intro p e s m args below meth c s₁ Bd hml0 hP hK
  obtain ⟨rfl, hZ, hh⟩ := hP
  have hx := Bd.exec
  have hby := Bd.bytes
  have hml : c.maxLocals = 4 := hml0
  have hown : s.vm.findClass "com/example/holdfast/holdfast/ServerRun" = some m.cls := findClass_of_methodNamed Bd.named
  have hnm := (name_of_methodNamed Bd.named Bd.method).1
  have X0 : Stand p l e ({ frames := 2, cells := 1, slots := 5, locals := 31 } : Room) s m #[(.ref x), (.long nn), (.int pb)] below meth c s₁ [] 0 0 := Stand.of_body Bd
  have e0 : s₁.heap = h0 := by rw [← hh, Bd.state]; rfl
  have N0 := Fr.nil n0
  have K0 : Keep h0 h0 [] := Keep.refl _ _
  have r0 : GoTo p.tables e below s₁ (own_F_own_of m x nn pb) s₁ (mkF m 0 #[.val (.ref x), .val (.long nn), .second, .val (.int pb)] []) := fun tt_ kk_ => castTop (own_ef_own_of m x nn pb) kk_
  obtain ⟨T1, h1, X1, e1, E1, A1, D1, -, st1⟩ := newO X0 hx hZ hown (hw _ (List.mem_of_getElem? (i := 34) rfl)) (hw _ (List.mem_of_getElem? (i := 35) rfl)) (hw _ (List.mem_of_getElem? (i := 32) rfl)) e0 (g := (mkF m 0 #[.val (.ref x), .val (.long nn), .second, .val (.int pb)] [])) rfl (hb hby own_d_prog_27_method_2_code_0) (by decide) (by decide)
  obtain ⟨b1, gg1⟩ : ∃ z, z = h0.size := ⟨_, rfl⟩
  rw [← gg1] at A1 D1 st1
  have g2 : n0 ≤ b1 := Nat.le_trans (Nat.le_trans (own_le O0) K0.1) (Nat.le_of_eq gg1.symm)
  have b3 : h0.size ≤ b1 := Nat.le_trans K0.1 (Nat.le_of_eq gg1.symm)
  have K4 : Keep h0 h1 [] := K0.ext E1
  obtain ⟨_, _, ⟨T5, L5, k5, n5⟩, -, X5, ⟨Lc5, hQ5, l5, y5, z5⟩, st5⟩ := X1.specialBack hx (y := (⟨"com/example/holdfast/holdfast/ServerRun", "<init>", "(Ljava/lang/String;JZLjava/lang/String;Lcom/example/holdfast/holdfast/HoldfastException$Reason;)V"⟩ : MethodName)) rfl hown (mvT hZ (hw _ (List.mem_of_getElem? (i := 36) rfl))) (mvT hZ (hw _ (List.mem_of_getElem? (i := 37) rfl))) (mvT hZ (hw _ (List.mem_of_getElem? (i := 38) rfl))) (by decide) (backOf (W := 1) (own_init l Z a0 hw [] (b1) ((.ref x)) (nn) (pb) (.null) (.null) h1 n0 (O0.keep K4 all0) (rfl) (rfl) (rfl) (A1) (g2) ((D1 (Or.inr (hw _ (List.mem_of_getElem? (i := 41) rfl))) (ty := (.object "java/lang/String")) (by decide))) ((D1 (Or.inr (hw _ (List.mem_of_getElem? (i := 43) rfl))) (ty := .long) (by decide))) ((D1 (Or.inr (hw _ (List.mem_of_getElem? (i := 45) rfl))) (ty := .boolean) (by decide))) ((D1 (Or.inr (hw _ (List.mem_of_getElem? (i := 47) rfl))) (ty := (.object "java/lang/String")) (by decide))) ((D1 (Or.inr (hw _ (List.mem_of_getElem? (i := 49) rfl))) (ty := (.object "com/example/holdfast/holdfast/HoldfastException$Reason")) (by decide)))) hZ (hw _ (List.mem_of_getElem? (i := 38) rfl)) (hw _ (List.mem_of_getElem? (i := 32) rfl)) (by decide) (by decide)) (g := (mkF m 9 #[.val (.ref x), .val (.long nn), .second, .val (.int pb)] [.null, .null, (.int pb), (.long nn), (.ref x), (.ref b1), (.ref b1)])) rfl (by rw [hml]; rfl) (Steps.refl _) (a := b1) (argsL := [(.ref x), (.long nn), (.int pb), .null, .null]) (rest := [(.ref b1)]) (lenOf own_pd0 rfl) rfl (by show 2 * 0 + _ ≤ _; exact Nat.le_of_eq rfl) (hb hby own_d_prog_27_method_2_code_9) (fun _ _ => ⟨rfl, e1, (by decide : 1 + 0 ≤ _), (by decide : 5 + 0 ≤ _)⟩)
  dsimp only [Pt.U, Pt.locs, Pt.cells, Pt.slots] at X5 l5 y5 z5 st5 hQ5
  subst l5 y5 z5
  obtain ⟨rfl, Nq5, Kq5, po5_0, po5_1, po5_2, po5_3, po5_4, po5_5⟩ := hQ5
  have N5 := Fr.app N0 Nq5
  have K6 : Keep h0 T5.heap [] := K4.trans Kq5 (allS (Or.inr b3) all0)
  obtain ⟨fs, hr, hrun, hended, hW, hsame⟩ := X5.leave (v := some (.ref b1)) (fun h => by rw [Bd.returns] at h; cases h)
  refine ⟨_, _, r0 _ ?_, hrun, hended, _, _, rfl, ?_, ⟨_, rfl⟩, hW, hsame.mono (by decide) (by decide)⟩
  · show Steps p.tables e below (s₁.setTop (mkF m 0 #[.val (.ref x), .val (.long nn), .second, .val (.int pb)] [])) _
    refine st1 _ ?_
    show Steps p.tables e below (T1.setTop (mkF m 3 #[.val (.ref x), .val (.long nn), .second, .val (.int pb)] [(.ref b1)])) _
    refine XS.dup X1.here hx rfl (hb hby own_d_prog_27_method_2_code_3) rfl rfl ?_
    show Steps p.tables e below (T1.setTop (mkF m 4 #[.val (.ref x), .val (.long nn), .second, .val (.int pb)] [(.ref b1), (.ref b1)])) _
    refine XS.aloadN X1.here hx rfl (hb hby own_d_prog_27_method_2_code_4) rfl rfl ?_
    show Steps p.tables e below (T1.setTop (mkF m 5 #[.val (.ref x), .val (.long nn), .second, .val (.int pb)] [(.ref x), (.ref b1), (.ref b1)])) _
    refine XS.lloadN X1.here hx rfl (hb hby own_d_prog_27_method_2_code_5) rfl ?_
    show Steps p.tables e below (T1.setTop (mkF m 6 #[.val (.ref x), .val (.long nn), .second, .val (.int pb)] [(.long nn), (.ref x), (.ref b1), (.ref b1)])) _
    refine XS.iloadN X1.here hx rfl (hb hby own_d_prog_27_method_2_code_6) rfl ?_
    show Steps p.tables e below (T1.setTop (mkF m 7 #[.val (.ref x), .val (.long nn), .second, .val (.int pb)] [(.int pb), (.long nn), (.ref x), (.ref b1), (.ref b1)])) _
    refine XS.aconstNull X1.here hx rfl (hb hby own_d_prog_27_method_2_code_7) ?_
    show Steps p.tables e below (T1.setTop (mkF m 8 #[.val (.ref x), .val (.long nn), .second, .val (.int pb)] [.null, (.int pb), (.long nn), (.ref x), (.ref b1), (.ref b1)])) _
    refine XS.aconstNull X1.here hx rfl (hb hby own_d_prog_27_method_2_code_8) ?_
    show Steps p.tables e below (T1.setTop (mkF m 9 #[.val (.ref x), .val (.long nn), .second, .val (.int pb)] [.null, .null, (.int pb), (.long nn), (.ref x), (.ref b1), (.ref b1)])) _
    refine st5.trans ?_
    show Steps p.tables e below (T5.setTop (mkF m 12 #[.val (.ref x), .val (.long nn), .second, .val (.int pb)] [(.ref b1)])) _
    exact retOut X5 hx (t := (.object "com/example/holdfast/holdfast/ServerRun")) Bd.returns rfl (Or.inr (Or.inr (Or.inr (Or.inr ⟨rfl, rfl, rfl⟩)))) (hb hby own_d_prog_27_method_2_code_12) hr
  · show Q_own_of Z x nn pb h0 n0 _ T5.heap _
    exact ⟨b1, rfl, N5, K6, b3, g2, po5_0, po5_1, po5_2, po5_3, po5_4, po5_5⟩
theorem own_pn_own_gunknownBecause : plainName "com/example/holdfast/holdfast/ServerRun" = true := by first | (simp [plainName, overriddenIn]; done) | decide +kernel
theorem own_ef_own_gunknownBecause (m : MethodId) (a : Addr) : entryFrame m #[(.ref a)] 1 = mkF m 0 #[.val (.ref a)] [] := by first | (simp [entryFrame, mkF, argsToLocals, own_cI, own_cJ, own_cR, own_cN]; done) | rfl
abbrev own_F_own_gunknownBecause (m : MethodId) (a : Addr) : JFrame := entryFrame m #[(.ref a)] 1
def Q_own_gunknownBecause (Z : State) (a : Addr) (sv : Value) (h0 : Heap) (n0 : Nat) (v : Option Value) (h : Heap) (L : List Loc) : Prop := v = some sv ∧ Fr n0 L ∧ h = h0
set_option maxRecDepth 65536 in
set_option maxHeartbeats 40000000 in
theorem own_gunknownBecause (l : Launch) (Z : State) (a0 : Array Value) (hw : ∀ d ∈ tables_1, d.before a0 Z = true) (ws : List Jvm.Cond) (a : Addr) (sv : Value) (h0 : Heap) (n0 : Nat) (O0 : Old Z n0 h0) (hsv : sv.isRef = true) (hp1 : Fld Z h0 a "com/example/holdfast/holdfast/ServerRun" "unknownBecause" "Ljava/lang/String;" sv) :
    MetFree l (⟨"com/example/holdfast/holdfast/ServerRun", "unknownBecause", "()Ljava/lang/String;"⟩ : MethodName) (head1 (Jvm.Cond.code (⟨"com/example/holdfast/holdfast/ServerRun", "unknownBecause", "()Ljava/lang/String;"⟩ : MethodName) prog_27_method_9_code 1 (some (.object "java/lang/String")) :: ws) ({ frames := 0, cells := 0, slots := 0, locals := 0 } : Room)) (fun aa_ U_ => aa_ = #[(.ref a)] ∧ Z.Warmed39 U_.vm ∧ U_.heap = h0) (fun _ _ _ _ _ => True) (fun _ U_ o_ V_ => ∃ v_ L_, o_ = .returned v_ ∧ Q_own_gunknownBecause Z a sv h0 n0 v_ V_.heap L_ ∧ FrameEnd U_ o_ V_ L_ ({ frames := 0, cells := 0, slots := 0, locals := 0 } : Room).cells ({ frames := 0, cells := 0, slots := 0, locals := 0 } : Room).slots) := by
  refine MetFree.of_bodySF (plainFor_of_name own_pn_own_gunknownBecause) hisR ?_
  intro p e s m args below meth c s₁ Bd hml0 hP hK
  obtain ⟨rfl, hZ, hh⟩ := hP
  have hx := Bd.exec
  have hby := Bd.bytes
  have hml : c.maxLocals = 1 := hml0
  have hown : s.vm.findClass "com/example/holdfast/holdfast/ServerRun" = some m.cls := findClass_of_methodNamed Bd.named
  have hnm := (name_of_methodNamed Bd.named Bd.method).1
  have X0 : Stand p l e ({ frames := 0, cells := 0, slots := 0, locals := 0 } : Room) s m #[(.ref a)] below meth c s₁ [] 0 0 := Stand.of_body Bd
  have e0 : s₁.heap = h0 := by rw [← hh, Bd.state]; rfl
  have N0 := Fr.nil n0
  have K0 : Keep h0 h0 [] := Keep.refl _ _
  have r0 : GoTo p.tables e below s₁ (own_F_own_gunknownBecause m a) s₁ (mkF m 0 #[.val (.ref a)] []) := fun tt_ kk_ => castTop (own_ef_own_gunknownBecause m a) kk_
  obtain ⟨T1, X1, e1, st1⟩ := getF X0 hx hZ hown (host := "") (Or.inl (hw _ (List.mem_of_getElem? (i := 46) rfl))) Via.refl e0 hp1 (g := (mkF m 1 #[.val (.ref a)] [(.ref a)])) rfl rfl (hb hby own_d_prog_27_method_9_code_1)
  obtain ⟨fs, hr, hrun, hended, hW, hsame⟩ := X1.leave (v := some sv) (fun h => by rw [Bd.returns] at h; cases h)
  refine ⟨_, _, r0 _ ?_, hrun, hended, _, _, rfl, ?_, ⟨_, rfl⟩, hW, hsame.mono (by decide) (by decide)⟩
  · show Steps p.tables e below (s₁.setTop (mkF m 0 #[.val (.ref a)] [])) _
    refine XS.aloadN X0.here hx rfl (hb hby own_d_prog_27_method_9_code_0) rfl rfl ?_
    show Steps p.tables e below (s₁.setTop (mkF m 1 #[.val (.ref a)] [(.ref a)])) _
    refine st1 _ ?_
    show Steps p.tables e below (T1.setTop (mkF m 4 #[.val (.ref a)] [sv])) _
    exact retOut X1 hx (t := (.object "java/lang/String")) Bd.returns rfl (Or.inr (Or.inr (Or.inr (Or.inr ⟨rfl, rfl, hsv⟩)))) (hb hby own_d_prog_27_method_9_code_4) hr
  · show Q_own_gunknownBecause Z a sv h0 n0 _ T1.heap _
    rw [e1]
    exact ⟨rfl, N0, rfl⟩
theorem own_pn_own_gid : plainName "com/example/holdfast/holdfast/ServerRun" = true := by first | (simp [plainName, overriddenIn]; done) | decide +kernel
theorem own_ef_own_gid (m : MethodId) (a : Addr) : entryFrame m #[(.ref a)] 1 = mkF m 0 #[.val (.ref a)] [] := by first | (simp [entryFrame, mkF, argsToLocals, own_cI, own_cJ, own_cR, own_cN]; done) | rfl
abbrev own_F_own_gid (m : MethodId) (a : Addr) : JFrame := entryFrame m #[(.ref a)] 1
def Q_own_gid (Z : State) (a : Addr) (sv : Value) (h0 : Heap) (n0 : Nat) (v : Option Value) (h : Heap) (L : List Loc) : Prop := v = some sv ∧ Fr n0 L ∧ h = h0
set_option maxRecDepth 65536 in
set_option maxHeartbeats 40000000 in
theorem own_gid (l : Launch) (Z : State) (a0 : Array Value) (hw : ∀ d ∈ tables_1, d.before a0 Z = true) (ws : List Jvm.Cond) (a : Addr) (sv : Value) (h0 : Heap) (n0 : Nat) (O0 : Old Z n0 h0) (hsv : sv.isRef = true) (hp1 : Fld Z h0 a "com/example/holdfast/holdfast/ServerRun" "id" "Ljava/lang/String;" sv) :
    MetFree l (⟨"com/example/holdfast/holdfast/ServerRun", "id", "()Ljava/lang/String;"⟩ : MethodName) (head1 (Jvm.Cond.code (⟨"com/example/holdfast/holdfast/ServerRun", "id", "()Ljava/lang/String;"⟩ : MethodName) prog_27_method_6_code 1 (some (.object "java/lang/String")) :: ws) ({ frames := 0, cells := 0, slots := 0, locals := 0 } : Room)) (fun aa_ U_ => aa_ = #[(.ref a)] ∧ Z.Warmed39 U_.vm ∧ U_.heap = h0) (fun _ _ _ _ _ => True) (fun _ U_ o_ V_ => ∃ v_ L_, o_ = .returned v_ ∧ Q_own_gid Z a sv h0 n0 v_ V_.heap L_ ∧ FrameEnd U_ o_ V_ L_ ({ frames := 0, cells := 0, slots := 0, locals := 0 } : Room).cells ({ frames := 0, cells := 0, slots := 0, locals := 0 } : Room).slots) := by
  refine MetFree.of_bodySF (plainFor_of_name own_pn_own_gid) hisR ?_
  intro p e s m args below meth c s₁ Bd hml0 hP hK
  obtain ⟨rfl, hZ, hh⟩ := hP
  have hx := Bd.exec
  have hby := Bd.bytes
  have hml : c.maxLocals = 1 := hml0
  have hown : s.vm.findClass "com/example/holdfast/holdfast/ServerRun" = some m.cls := findClass_of_methodNamed Bd.named
  have hnm := (name_of_methodNamed Bd.named Bd.method).1
  have X0 : Stand p l e ({ frames := 0, cells := 0, slots := 0, locals := 0 } : Room) s m #[(.ref a)] below meth c s₁ [] 0 0 := Stand.of_body Bd
  have e0 : s₁.heap = h0 := by rw [← hh, Bd.state]; rfl
  have N0 := Fr.nil n0
  have K0 : Keep h0 h0 [] := Keep.refl _ _
  have r0 : GoTo p.tables e below s₁ (own_F_own_gid m a) s₁ (mkF m 0 #[.val (.ref a)] []) := fun tt_ kk_ => castTop (own_ef_own_gid m a) kk_
  obtain ⟨T1, X1, e1, st1⟩ := getF X0 hx hZ hown (host := "") (Or.inl (hw _ (List.mem_of_getElem? (i := 40) rfl))) Via.refl e0 hp1 (g := (mkF m 1 #[.val (.ref a)] [(.ref a)])) rfl rfl (hb hby own_d_prog_27_method_6_code_1)
  obtain ⟨fs, hr, hrun, hended, hW, hsame⟩ := X1.leave (v := some sv) (fun h => by rw [Bd.returns] at h; cases h)
  refine ⟨_, _, r0 _ ?_, hrun, hended, _, _, rfl, ?_, ⟨_, rfl⟩, hW, hsame.mono (by decide) (by decide)⟩
  · show Steps p.tables e below (s₁.setTop (mkF m 0 #[.val (.ref a)] [])) _
    refine XS.aloadN X0.here hx rfl (hb hby own_d_prog_27_method_6_code_0) rfl rfl ?_
    show Steps p.tables e below (s₁.setTop (mkF m 1 #[.val (.ref a)] [(.ref a)])) _
    refine st1 _ ?_
    show Steps p.tables e below (T1.setTop (mkF m 4 #[.val (.ref a)] [sv])) _
    exact retOut X1 hx (t := (.object "java/lang/String")) Bd.returns rfl (Or.inr (Or.inr (Or.inr (Or.inr ⟨rfl, rfl, hsv⟩)))) (hb hby own_d_prog_27_method_6_code_4) hr
  · show Q_own_gid Z a sv h0 n0 _ T1.heap _
    rw [e1]
    exact ⟨rfl, N0, rfl⟩
theorem own_pn_own_gbegunByNanos : plainName "com/example/holdfast/holdfast/ServerRun" = true := by first | (simp [plainName, overriddenIn]; done) | decide +kernel
theorem own_ef_own_gbegunByNanos (m : MethodId) (a : Addr) : entryFrame m #[(.ref a)] 1 = mkF m 0 #[.val (.ref a)] [] := by first | (simp [entryFrame, mkF, argsToLocals, own_cI, own_cJ, own_cR, own_cN]; done) | rfl
abbrev own_F_own_gbegunByNanos (m : MethodId) (a : Addr) : JFrame := entryFrame m #[(.ref a)] 1
def Q_own_gbegunByNanos (Z : State) (a : Addr) (nn : Int64) (h0 : Heap) (n0 : Nat) (v : Option Value) (h : Heap) (L : List Loc) : Prop := v = some (.long nn) ∧ Fr n0 L ∧ h = h0
set_option maxRecDepth 65536 in
set_option maxHeartbeats 40000000 in
theorem own_gbegunByNanos (l : Launch) (Z : State) (a0 : Array Value) (hw : ∀ d ∈ tables_1, d.before a0 Z = true) (ws : List Jvm.Cond) (a : Addr) (nn : Int64) (h0 : Heap) (n0 : Nat) (O0 : Old Z n0 h0) (hp0 : Fld Z h0 a "com/example/holdfast/holdfast/ServerRun" "begunByNanos" "J" (.long nn)) :
    MetFree l (⟨"com/example/holdfast/holdfast/ServerRun", "begunByNanos", "()J"⟩ : MethodName) (head1 (Jvm.Cond.code (⟨"com/example/holdfast/holdfast/ServerRun", "begunByNanos", "()J"⟩ : MethodName) prog_27_method_7_code 1 (some .long) :: ws) ({ frames := 0, cells := 0, slots := 0, locals := 0 } : Room)) (fun aa_ U_ => aa_ = #[(.ref a)] ∧ Z.Warmed39 U_.vm ∧ U_.heap = h0) (fun _ _ _ _ _ => True) (fun _ U_ o_ V_ => ∃ v_ L_, o_ = .returned v_ ∧ Q_own_gbegunByNanos Z a nn h0 n0 v_ V_.heap L_ ∧ FrameEnd U_ o_ V_ L_ ({ frames := 0, cells := 0, slots := 0, locals := 0 } : Room).cells ({ frames := 0, cells := 0, slots := 0, locals := 0 } : Room).slots) := by
  refine MetFree.of_bodySF (plainFor_of_name own_pn_own_gbegunByNanos) hisR ?_
  intro p e s m args below meth c s₁ Bd hml0 hP hK
  obtain ⟨rfl, hZ, hh⟩ := hP
  have hx := Bd.exec
  have hby := Bd.bytes
  have hml : c.maxLocals = 1 := hml0
  have hown : s.vm.findClass "com/example/holdfast/holdfast/ServerRun" = some m.cls := findClass_of_methodNamed Bd.named
  have hnm := (name_of_methodNamed Bd.named Bd.method).1
  have X0 : Stand p l e ({ frames := 0, cells := 0, slots := 0, locals := 0 } : Room) s m #[(.ref a)] below meth c s₁ [] 0 0 := Stand.of_body Bd
  have e0 : s₁.heap = h0 := by rw [← hh, Bd.state]; rfl
  have N0 := Fr.nil n0
  have K0 : Keep h0 h0 [] := Keep.refl _ _
  have r0 : GoTo p.tables e below s₁ (own_F_own_gbegunByNanos m a) s₁ (mkF m 0 #[.val (.ref a)] []) := fun tt_ kk_ => castTop (own_ef_own_gbegunByNanos m a) kk_
  obtain ⟨T1, X1, e1, st1⟩ := getF X0 hx hZ hown (host := "") (Or.inl (hw _ (List.mem_of_getElem? (i := 42) rfl))) Via.refl e0 hp0 (g := (mkF m 1 #[.val (.ref a)] [(.ref a)])) rfl rfl (hb hby own_d_prog_27_method_7_code_1)
  obtain ⟨fs, hr, hrun, hended, hW, hsame⟩ := X1.leave (v := some (.long nn)) (fun h => by rw [Bd.returns] at h; cases h)
  refine ⟨_, _, r0 _ ?_, hrun, hended, _, _, rfl, ?_, ⟨_, rfl⟩, hW, hsame.mono (by decide) (by decide)⟩
  · show Steps p.tables e below (s₁.setTop (mkF m 0 #[.val (.ref a)] [])) _
    refine XS.aloadN X0.here hx rfl (hb hby own_d_prog_27_method_7_code_0) rfl rfl ?_
    show Steps p.tables e below (s₁.setTop (mkF m 1 #[.val (.ref a)] [(.ref a)])) _
    refine st1 _ ?_
    show Steps p.tables e below (T1.setTop (mkF m 4 #[.val (.ref a)] [(.long nn)])) _
    exact X1.lreturnOut hx Bd.returns (hb hby own_d_prog_27_method_7_code_4) hr
  · show Q_own_gbegunByNanos Z a nn h0 n0 _ T1.heap _
    rw [e1]
    exact ⟨rfl, N0, rfl⟩
theorem own_pn_own_gpersistsEveryWrite : plainName "com/example/holdfast/holdfast/ServerRun" = true := by first | (simp [plainName, overriddenIn]; done) | decide +kernel
theorem own_ef_own_gpersistsEveryWrite (m : MethodId) (a : Addr) : entryFrame m #[(.ref a)] 1 = mkF m 0 #[.val (.ref a)] [] := by first | (simp [entryFrame, mkF, argsToLocals, own_cI, own_cJ, own_cR, own_cN]; done) | rfl
abbrev own_F_own_gpersistsEveryWrite (m : MethodId) (a : Addr) : JFrame := entryFrame m #[(.ref a)] 1
def Q_own_gpersistsEveryWrite (Z : State) (a : Addr) (pb : Int32) (h0 : Heap) (n0 : Nat) (v : Option Value) (h : Heap) (L : List Loc) : Prop := v = some (.int pb) ∧ Fr n0 L ∧ h = h0
set_option maxRecDepth 65536 in
set_option maxHeartbeats 40000000 in
theorem own_gpersistsEveryWrite (l : Launch) (Z : State) (a0 : Array Value) (hw : ∀ d ∈ tables_1, d.before a0 Z = true) (ws : List Jvm.Cond) (a : Addr) (pb : Int32) (h0 : Heap) (n0 : Nat) (O0 : Old Z n0 h0) (hpb : nar .boolean pb = pb) (hp1 : Fld Z h0 a "com/example/holdfast/holdfast/ServerRun" "persistsEveryWrite" "Z" (.int pb)) :
    MetFree l (⟨"com/example/holdfast/holdfast/ServerRun", "persistsEveryWrite", "()Z"⟩ : MethodName) (head1 (Jvm.Cond.code (⟨"com/example/holdfast/holdfast/ServerRun", "persistsEveryWrite", "()Z"⟩ : MethodName) prog_27_method_8_code 1 (some .boolean) :: ws) ({ frames := 0, cells := 0, slots := 0, locals := 0 } : Room)) (fun aa_ U_ => aa_ = #[(.ref a)] ∧ Z.Warmed39 U_.vm ∧ U_.heap = h0) (fun _ _ _ _ _ => True) (fun _ U_ o_ V_ => ∃ v_ L_, o_ = .returned v_ ∧ Q_own_gpersistsEveryWrite Z a pb h0 n0 v_ V_.heap L_ ∧ FrameEnd U_ o_ V_ L_ ({ frames := 0, cells := 0, slots := 0, locals := 0 } : Room).cells ({ frames := 0, cells := 0, slots := 0, locals := 0 } : Room).slots) := by
  refine MetFree.of_bodySF (plainFor_of_name own_pn_own_gpersistsEveryWrite) hisR ?_
  intro p e s m args below meth c s₁ Bd hml0 hP hK
  obtain ⟨rfl, hZ, hh⟩ := hP
  have hx := Bd.exec
  have hby := Bd.bytes
  have hml : c.maxLocals = 1 := hml0
  have hown : s.vm.findClass "com/example/holdfast/holdfast/ServerRun" = some m.cls := findClass_of_methodNamed Bd.named
  have hnm := (name_of_methodNamed Bd.named Bd.method).1
  have X0 : Stand p l e ({ frames := 0, cells := 0, slots := 0, locals := 0 } : Room) s m #[(.ref a)] below meth c s₁ [] 0 0 := Stand.of_body Bd
  have e0 : s₁.heap = h0 := by rw [← hh, Bd.state]; rfl
  have N0 := Fr.nil n0
  have K0 : Keep h0 h0 [] := Keep.refl _ _
  have r0 : GoTo p.tables e below s₁ (own_F_own_gpersistsEveryWrite m a) s₁ (mkF m 0 #[.val (.ref a)] []) := fun tt_ kk_ => castTop (own_ef_own_gpersistsEveryWrite m a) kk_
  obtain ⟨T1, X1, e1, st1⟩ := getF X0 hx hZ hown (host := "") (Or.inl (hw _ (List.mem_of_getElem? (i := 44) rfl))) Via.refl e0 hp1 (g := (mkF m 1 #[.val (.ref a)] [(.ref a)])) rfl rfl (hb hby own_d_prog_27_method_8_code_1)
  obtain ⟨fs, hr, hrun, hended, hW, hsame⟩ := X1.leave (v := some (.int (nar .boolean pb))) (fun h => by rw [Bd.returns] at h; cases h)
  refine ⟨_, _, r0 _ ?_, hrun, hended, _, _, rfl, ?_, ⟨_, rfl⟩, hW, hsame.mono (by decide) (by decide)⟩
  · show Steps p.tables e below (s₁.setTop (mkF m 0 #[.val (.ref a)] [])) _
    refine XS.aloadN X0.here hx rfl (hb hby own_d_prog_27_method_8_code_0) rfl rfl ?_
    show Steps p.tables e below (s₁.setTop (mkF m 1 #[.val (.ref a)] [(.ref a)])) _
    refine st1 _ ?_
    show Steps p.tables e below (T1.setTop (mkF m 4 #[.val (.ref a)] [(.int pb)])) _
    exact retN X1 hx (t := .boolean) Bd.returns (by simp) (hb hby own_d_prog_27_method_8_code_4) hr
  · show Q_own_gpersistsEveryWrite Z a pb h0 n0 _ T1.heap _
    rw [e1]
    exact ⟨(by rw [hpb]), N0, rfl⟩
theorem own_pn_own_known1 : plainName "com/example/holdfast/holdfast/ServerRun" = true := by first | (simp [plainName, overriddenIn]; done) | decide +kernel
theorem own_ef_own_known1 (m : MethodId) (a : Addr) : entryFrame m #[(.ref a)] 1 = mkF m 0 #[.val (.ref a)] [] := by first | (simp [entryFrame, mkF, argsToLocals, own_cI, own_cJ, own_cR, own_cN]; done) | rfl
abbrev own_F_own_known1 (m : MethodId) (a : Addr) : JFrame := entryFrame m #[(.ref a)] 1
def Q_own_known1 (Z : State) (a : Addr) (h0 : Heap) (n0 : Nat) (v : Option Value) (h : Heap) (L : List Loc) : Prop := v = some (.int (1 : Int32)) ∧ Fr n0 L ∧ h = h0
set_option maxRecDepth 65536 in
set_option maxHeartbeats 40000000 in
theorem own_known1 (l : Launch) (Z : State) (a0 : Array Value) (hw : ∀ d ∈ tables_1, d.before a0 Z = true) (ws : List Jvm.Cond) (a : Addr) (h0 : Heap) (n0 : Nat) (O0 : Old Z n0 h0) (hp0 : Fld Z h0 a "com/example/holdfast/holdfast/ServerRun" "unknownBecause" "Ljava/lang/String;" .null) :
    MetFree l (⟨"com/example/holdfast/holdfast/ServerRun", "isKnown", "()Z"⟩ : MethodName) (head1 (Jvm.Cond.code (⟨"com/example/holdfast/holdfast/ServerRun", "isKnown", "()Z"⟩ : MethodName) prog_27_method_5_code 1 (some .boolean) :: ws) ({ frames := 0, cells := 0, slots := 0, locals := 0 } : Room)) (fun aa_ U_ => aa_ = #[(.ref a)] ∧ Z.Warmed39 U_.vm ∧ U_.heap = h0) (fun _ _ _ _ _ => True) (fun _ U_ o_ V_ => ∃ v_ L_, o_ = .returned v_ ∧ Q_own_known1 Z a h0 n0 v_ V_.heap L_ ∧ FrameEnd U_ o_ V_ L_ ({ frames := 0, cells := 0, slots := 0, locals := 0 } : Room).cells ({ frames := 0, cells := 0, slots := 0, locals := 0 } : Room).slots) := by
  refine MetFree.of_bodySF (plainFor_of_name own_pn_own_known1) hisR ?_
  intro p e s m args below meth c s₁ Bd hml0 hP hK
  obtain ⟨rfl, hZ, hh⟩ := hP
  have hx := Bd.exec
  have hby := Bd.bytes
  have hml : c.maxLocals = 1 := hml0
  have hown : s.vm.findClass "com/example/holdfast/holdfast/ServerRun" = some m.cls := findClass_of_methodNamed Bd.named
  have hnm := (name_of_methodNamed Bd.named Bd.method).1
  have X0 : Stand p l e ({ frames := 0, cells := 0, slots := 0, locals := 0 } : Room) s m #[(.ref a)] below meth c s₁ [] 0 0 := Stand.of_body Bd
  have e0 : s₁.heap = h0 := by rw [← hh, Bd.state]; rfl
  have N0 := Fr.nil n0
  have K0 : Keep h0 h0 [] := Keep.refl _ _
  have r0 : GoTo p.tables e below s₁ (own_F_own_known1 m a) s₁ (mkF m 0 #[.val (.ref a)] []) := fun tt_ kk_ => castTop (own_ef_own_known1 m a) kk_
  obtain ⟨T1, X1, e1, st1⟩ := getF X0 hx hZ hown (host := "") (Or.inl (hw _ (List.mem_of_getElem? (i := 46) rfl))) Via.refl e0 hp0 (g := (mkF m 1 #[.val (.ref a)] [(.ref a)])) rfl rfl (hb hby own_d_prog_27_method_5_code_1)
  obtain ⟨fs, hr, hrun, hended, hW, hsame⟩ := X1.leave (v := some (.int (nar .boolean (1 : Int32)))) (fun h => by rw [Bd.returns] at h; cases h)
  refine ⟨_, _, r0 _ ?_, hrun, hended, _, _, rfl, ?_, ⟨_, rfl⟩, hW, hsame.mono (by decide) (by decide)⟩
  · show Steps p.tables e below (s₁.setTop (mkF m 0 #[.val (.ref a)] [])) _
    refine XS.aloadN X0.here hx rfl (hb hby own_d_prog_27_method_5_code_0) rfl rfl ?_
    show Steps p.tables e below (s₁.setTop (mkF m 1 #[.val (.ref a)] [(.ref a)])) _
    refine st1 _ ?_
    show Steps p.tables e below (T1.setTop (mkF m 4 #[.val (.ref a)] [.null])) _
    refine XS.ifnonnullNo X1.here hx rfl (hb hby own_d_prog_27_method_5_code_4) rfl ?_
    show Steps p.tables e below (T1.setTop (mkF m 7 #[.val (.ref a)] [])) _
    refine XS.iconst X1.here hx rfl (hb hby own_d_prog_27_method_5_code_7) ?_
    show Steps p.tables e below (T1.setTop (mkF m 8 #[.val (.ref a)] [(.int (1 : Int32))])) _
    refine XS.goto X1.here hx rfl (pc0 := 8) (pc' := 12) rfl (hb hby own_d_prog_27_method_5_code_8) (by decide) (by decide) ?_
    show Steps p.tables e below (T1.setTop (mkF m 12 #[.val (.ref a)] [(.int (1 : Int32))])) _
    exact retN X1 hx (t := .boolean) Bd.returns (by simp) (hb hby own_d_prog_27_method_5_code_12) hr
  · show Q_own_known1 Z a h0 n0 _ T1.heap _
    rw [e1]
    exact ⟨rfl, N0, rfl⟩
theorem own_pn_own_same : plainName "com/example/holdfast/holdfast/ServerRun" = true := by first | (simp [plainName, overriddenIn]; done) | decide +kernel
theorem own_ef_own_same (m : MethodId) (a : Addr) (b : Addr) : entryFrame m #[(.ref a), (.ref b)] 3 = mkF m 0 #[.val (.ref a), .val (.ref b), .unset] [] := by first | (simp [entryFrame, mkF, argsToLocals, own_cI, own_cJ, own_cR, own_cN]; done) | rfl
abbrev own_F_own_same (m : MethodId) (a : Addr) (b : Addr) : JFrame := entryFrame m #[(.ref a), (.ref b)] 3
def Q_own_same (Z : State) (a : Addr) (b : Addr) (x : Addr) (y : Addr) (tx : Addr) (ty : Addr) (kx : ClassId) (ky : ClassId) (xs : List Int32) (ys : List Int32) (G1 : Int32) (h0 : Heap) (n0 : Nat) (v : Option Value) (h : Heap) (L : List Loc) : Prop := v = some (.int (if xs = ys then (1 : Int32) else 0)) ∧ Fr n0 L ∧ h = h0
set_option maxRecDepth 65536 in
set_option maxHeartbeats 40000000 in
theorem own_same (l : Launch) (Z : State) (a0 : Array Value) (hw : ∀ d ∈ tables_1, d.before a0 Z = true) (ws : List Jvm.Cond) (a : Addr) (b : Addr) (x : Addr) (y : Addr) (tx : Addr) (ty : Addr) (kx : ClassId) (ky : ClassId) (xs : List Int32) (ys : List Int32) (G1 : Int32) (h0 : Heap) (n0 : Nat) (O0 : Old Z n0 h0) (hp0 : Exa Z h0 a "com/example/holdfast/holdfast/ServerRun") (hp1 : Exa Z h0 b "com/example/holdfast/holdfast/ServerRun") (hp2 : Fld Z h0 a "com/example/holdfast/holdfast/ServerRun" "unknownBecause" "Ljava/lang/String;" .null) (hp3 : Fld Z h0 b "com/example/holdfast/holdfast/ServerRun" "unknownBecause" "Ljava/lang/String;" .null) (hp4 : Fld Z h0 a "com/example/holdfast/holdfast/ServerRun" "id" "Ljava/lang/String;" (.ref x)) (hp5 : Fld Z h0 b "com/example/holdfast/holdfast/ServerRun" "id" "Ljava/lang/String;" (.ref y)) (hp6 : own_Str Z h0 x tx kx xs) (hp7 : own_Str Z h0 y ty ky ys) (hp8 : Sta Z Z.heap "java/lang/String" "COMPACT_STRINGS" "Z" (.int G1)) (hG1 : ¬ G1 = (0 : Int32)) :
    MetFree l (⟨"com/example/holdfast/holdfast/ServerRun", "isSameRunAs", "(Lcom/example/holdfast/holdfast/ServerRun;)Z"⟩ : MethodName) (head1 (Jvm.Cond.code (⟨"com/example/holdfast/holdfast/ServerRun", "isSameRunAs", "(Lcom/example/holdfast/holdfast/ServerRun;)Z"⟩ : MethodName) prog_27_method_11_code 3 (some .boolean) :: ws) ({ frames := 2, cells := 0, slots := 0, locals := 28 } : Room)) (fun aa_ U_ => aa_ = #[(.ref a), (.ref b)] ∧ Z.Warmed39 U_.vm ∧ U_.heap = h0) (fun _ _ _ _ _ => True) (fun _ U_ o_ V_ => ∃ v_ L_, o_ = .returned v_ ∧ Q_own_same Z a b x y tx ty kx ky xs ys G1 h0 n0 v_ V_.heap L_ ∧ FrameEnd U_ o_ V_ L_ ({ frames := 2, cells := 0, slots := 0, locals := 28 } : Room).cells ({ frames := 2, cells := 0, slots := 0, locals := 28 } : Room).slots) := by
  refine MetFree.of_bodySF (plainFor_of_name own_pn_own_same) hisR ?_
  intro p e s m args below meth c s₁ Bd hml0 hP hK
  obtain ⟨rfl, hZ, hh⟩ := hP
  have hx := Bd.exec
  have hby := Bd.bytes
  have hml : c.maxLocals = 3 := hml0
  have hown : s.vm.findClass "com/example/holdfast/holdfast/ServerRun" = some m.cls := findClass_of_methodNamed Bd.named
  have hnm := (name_of_methodNamed Bd.named Bd.method).1
  have X0 : Stand p l e ({ frames := 2, cells := 0, slots := 0, locals := 28 } : Room) s m #[(.ref a), (.ref b)] below meth c s₁ [] 0 0 := Stand.of_body Bd
  have e0 : s₁.heap = h0 := by rw [← hh, Bd.state]; rfl
  have N0 := Fr.nil n0
  have K0 : Keep h0 h0 [] := Keep.refl _ _
  have r0 : GoTo p.tables e below s₁ (own_F_own_same m a b) s₁ (mkF m 0 #[.val (.ref a), .val (.ref b), .unset] []) := fun tt_ kk_ => castTop (own_ef_own_same m a b) kk_
  obtain ⟨cq1, kq1, qa1, qb1, qc1⟩ := isOf hZ e0 hp0
  obtain ⟨_, _, ⟨T1, L1, k1, n1⟩, -, X1, ⟨Lc1, hQ1, l1, y1, z1⟩, st1⟩ := X0.virtualBack hx (y := (⟨"com/example/holdfast/holdfast/ServerRun", "isKnown", "()Z"⟩ : MethodName)) (z := (⟨"com/example/holdfast/holdfast/ServerRun", "isKnown", "()Z"⟩ : MethodName)) hown (mvT hZ (hw _ (List.mem_of_getElem? (i := 85) rfl))) (mvT hZ (hw _ (List.mem_of_getElem? (i := 51) rfl))) (notFace_of_selects (args := #[]) (mvT hZ (hw _ (List.mem_of_getElem? (i := 53) rfl)))) (mvT hZ (hw _ (List.mem_of_getElem? (i := 53) rfl))) (mvT hZ (hw _ (List.mem_of_getElem? (i := 52) rfl))) (by decide) (backOf (W := 0) (own_known1 l Z a0 hw [] (a) h0 n0 (O0.keep K0 all0) (hp2)) hZ (hw _ (List.mem_of_getElem? (i := 54) rfl)) (hw _ (List.mem_of_getElem? (i := 32) rfl)) (by decide) (by decide)) qa1 qc1 (g := (mkF m 1 #[.val (.ref a), .val (.ref b), .unset] [(.ref a)])) rfl (by rw [hml]; rfl) (Steps.refl _) (argsL := []) (rest := []) (lenOf own_pd1 rfl) rfl (by show 2 * 0 + _ ≤ _; exact Nat.le_of_eq rfl) (hb hby own_d_prog_27_method_11_code_1) (fun _ _ => ⟨rfl, e0, (by decide : 0 + 0 ≤ _), (by decide : 0 + 0 ≤ _)⟩)
  dsimp only [Pt.U, Pt.locs, Pt.cells, Pt.slots] at X1 l1 y1 z1 st1 hQ1
  subst l1 y1 z1
  obtain ⟨rfl, Nq1, hh1⟩ := hQ1
  have N1 := Fr.app N0 Nq1
  obtain ⟨cq2, kq2, qa2, qb2, qc2⟩ := isOf hZ hh1 hp1
  obtain ⟨_, _, ⟨T2, L2, k2, n2⟩, -, X2, ⟨Lc2, hQ2, l2, y2, z2⟩, st2⟩ := X1.virtualBack hx (y := (⟨"com/example/holdfast/holdfast/ServerRun", "isKnown", "()Z"⟩ : MethodName)) (z := (⟨"com/example/holdfast/holdfast/ServerRun", "isKnown", "()Z"⟩ : MethodName)) hown (mvT hZ (hw _ (List.mem_of_getElem? (i := 85) rfl))) (mvT hZ (hw _ (List.mem_of_getElem? (i := 51) rfl))) (notFace_of_selects (args := #[]) (mvT hZ (hw _ (List.mem_of_getElem? (i := 53) rfl)))) (mvT hZ (hw _ (List.mem_of_getElem? (i := 53) rfl))) (mvT hZ (hw _ (List.mem_of_getElem? (i := 52) rfl))) (by decide) (backOf (W := 0) (own_known1 l Z a0 hw [] (b) h0 n0 (O0.keep K0 all0) (hp3)) hZ (hw _ (List.mem_of_getElem? (i := 54) rfl)) (hw _ (List.mem_of_getElem? (i := 32) rfl)) (by decide) (by decide)) qa2 qc2 (g := (mkF m 8 #[.val (.ref a), .val (.ref b), .unset] [(.ref b)])) rfl (by rw [hml]; rfl) (Steps.refl _) (argsL := []) (rest := []) (lenOf own_pd1 rfl) rfl (by show 2 * 0 + _ ≤ _; exact Nat.le_of_eq rfl) (hb hby own_d_prog_27_method_11_code_8) (fun _ _ => ⟨rfl, hh1, (by decide : 0 + 0 ≤ _), (by decide : 0 + 0 ≤ _)⟩)
  dsimp only [Pt.U, Pt.locs, Pt.cells, Pt.slots] at X2 l2 y2 z2 st2 hQ2
  subst l2 y2 z2
  obtain ⟨rfl, Nq2, hh2⟩ := hQ2
  have N2 := Fr.app N1 Nq2
  obtain ⟨T3, X3, e3, st3⟩ := getF X2 hx hZ hown (host := "") (Or.inl (hw _ (List.mem_of_getElem? (i := 40) rfl))) Via.refl hh2 hp4 (g := (mkF m 15 #[.val (.ref a), .val (.ref b), .unset] [(.ref a)])) rfl rfl (hb hby own_d_prog_27_method_11_code_15)
  obtain ⟨T4, X4, e4, st4⟩ := getF X3 hx hZ hown (host := "") (Or.inl (hw _ (List.mem_of_getElem? (i := 40) rfl))) Via.refl e3 hp5 (g := (mkF m 19 #[.val (.ref a), .val (.ref b), .unset] [(.ref b), (.ref x)])) rfl rfl (hb hby own_d_prog_27_method_11_code_19)
  have heq : ∀ d ∈ StrChars.Road.wordsEq, d.before a0 Z = true := fun d hd => hw d (own_in_wordsEq d hd)
  obtain ⟨cq5, kq5, qa5, qb5, qc5⟩ := isOf hZ e4 hp6.1
  obtain ⟨_, _, ⟨T5, L5, k5, n5⟩, -, X5, ⟨Lc5, hQ5, l5, y5, z5⟩, st5⟩ := X4.virtualBack hx (y := (⟨"java/lang/String", "equals", "(Ljava/lang/Object;)Z"⟩ : MethodName)) (z := (⟨"java/lang/String", "equals", "(Ljava/lang/Object;)Z"⟩ : MethodName)) hown (mvT hZ (hw _ (List.mem_of_getElem? (i := 86) rfl))) (mvT hZ (hw _ (List.mem_of_getElem? (i := 66) rfl))) (notFace_of_selects (args := #[]) (mvT hZ (hw _ (List.mem_of_getElem? (i := 68) rfl)))) (mvT hZ (hw _ (List.mem_of_getElem? (i := 68) rfl))) (mvT hZ (hw _ (List.mem_of_getElem? (i := 67) rfl))) (by decide) (StrChars.Road.eqW (W := 0) hZ heq (kI := 4) (hw _ (List.mem_of_getElem? (i := 1) rfl)) hp6.1 hp6.2.1 hp6.2.2.1 hp6.2.2.2.1 (StrChars.Road.codOf rfl (fun c hc => (hp6.2.2.2.2.1 c hc).2)) (own_up hp6.2.2.2.2.1) hp6.2.2.2.2.2 hp7.1 hp7.2.1 hp7.2.2.1 hp7.2.2.2.1 (StrChars.Road.codOf rfl (fun c hc => (hp7.2.2.2.2.1 c hc).2)) (own_up hp7.2.2.2.2.1) hp7.2.2.2.2.2 (hp8.ext (O0.keep K0 all0).2) hG1 (by decide) (by decide)) qa5 qc5 (g := (mkF m 22 #[.val (.ref a), .val (.ref b), .unset] [(.ref y), (.ref x)])) rfl (by rw [hml]; rfl) (Steps.refl _) (argsL := [(.ref y)]) (rest := []) (lenOf own_pd2 rfl) rfl (by show 2 * 0 + _ ≤ _; exact Nat.le_of_eq rfl) (hb hby own_d_prog_27_method_11_code_22) (fun _ _ => ⟨rfl, e4, (by decide : 0 + 0 ≤ _), (by decide : 0 + 0 ≤ _)⟩)
  dsimp only [Pt.U, Pt.locs, Pt.cells, Pt.slots] at X5 l5 y5 z5 st5 hQ5
  subst l5 y5 z5
  obtain ⟨hv5, rfl, hh5⟩ := hQ5
  obtain rfl := own_eqv hv5
  have N5 := Fr.app N2 (Fr.nil n0)
  obtain ⟨fs, hr, hrun, hended, hW, hsame⟩ := X5.leave (v := some (.int (nar .boolean (if xs = ys then (1 : Int32) else 0)))) (fun h => by rw [Bd.returns] at h; cases h)
  refine ⟨_, _, r0 _ ?_, hrun, hended, _, _, rfl, ?_, ⟨_, rfl⟩, hW, hsame.mono (by decide) (by decide)⟩
  · show Steps p.tables e below (s₁.setTop (mkF m 0 #[.val (.ref a), .val (.ref b), .unset] [])) _
    refine XS.aloadN X0.here hx rfl (hb hby own_d_prog_27_method_11_code_0) rfl rfl ?_
    show Steps p.tables e below (s₁.setTop (mkF m 1 #[.val (.ref a), .val (.ref b), .unset] [(.ref a)])) _
    refine st1.trans ?_
    show Steps p.tables e below (T1.setTop (mkF m 4 #[.val (.ref a), .val (.ref b), .unset] [(.int (1 : Int32))])) _
    refine XS.ifNo X1.here hx rfl (hb hby own_d_prog_27_method_11_code_4) rfl ((if0 _ _).trans (feq (by decide)).1) ?_
    show Steps p.tables e below (T1.setTop (mkF m 7 #[.val (.ref a), .val (.ref b), .unset] [])) _
    refine XS.aloadN X1.here hx rfl (hb hby own_d_prog_27_method_11_code_7) rfl rfl ?_
    show Steps p.tables e below (T1.setTop (mkF m 8 #[.val (.ref a), .val (.ref b), .unset] [(.ref b)])) _
    refine st2.trans ?_
    show Steps p.tables e below (T2.setTop (mkF m 11 #[.val (.ref a), .val (.ref b), .unset] [(.int (1 : Int32))])) _
    refine XS.ifNo X2.here hx rfl (hb hby own_d_prog_27_method_11_code_11) rfl ((if0 _ _).trans (feq (by decide)).1) ?_
    show Steps p.tables e below (T2.setTop (mkF m 14 #[.val (.ref a), .val (.ref b), .unset] [])) _
    refine XS.aloadN X2.here hx rfl (hb hby own_d_prog_27_method_11_code_14) rfl rfl ?_
    show Steps p.tables e below (T2.setTop (mkF m 15 #[.val (.ref a), .val (.ref b), .unset] [(.ref a)])) _
    refine st3 _ ?_
    show Steps p.tables e below (T3.setTop (mkF m 18 #[.val (.ref a), .val (.ref b), .unset] [(.ref x)])) _
    refine XS.aloadN X3.here hx rfl (hb hby own_d_prog_27_method_11_code_18) rfl rfl ?_
    show Steps p.tables e below (T3.setTop (mkF m 19 #[.val (.ref a), .val (.ref b), .unset] [(.ref b), (.ref x)])) _
    refine st4 _ ?_
    show Steps p.tables e below (T4.setTop (mkF m 22 #[.val (.ref a), .val (.ref b), .unset] [(.ref y), (.ref x)])) _
    refine st5.trans ?_
    show Steps p.tables e below (T5.setTop (mkF m 25 #[.val (.ref a), .val (.ref b), .unset] [(.int (if xs = ys then (1 : Int32) else 0))])) _
    refine XS.istoreN X5.here hx rfl (hb hby own_d_prog_27_method_11_code_25) rfl (l' := #[.val (.ref a), .val (.ref b), .val (.int (if xs = ys then (1 : Int32) else 0))]) rfl ?_
    show Steps p.tables e below (T5.setTop (mkF m 26 #[.val (.ref a), .val (.ref b), .val (.int (if xs = ys then (1 : Int32) else 0))] [])) _
    refine XS.goto X5.here hx rfl (pc0 := 26) (pc' := 46) rfl (hb hby own_d_prog_27_method_11_code_26) (by decide) (by decide) ?_
    show Steps p.tables e below (T5.setTop (mkF m 46 #[.val (.ref a), .val (.ref b), .val (.int (if xs = ys then (1 : Int32) else 0))] [])) _
    refine XS.iloadN X5.here hx rfl (hb hby own_d_prog_27_method_11_code_46) rfl ?_
    show Steps p.tables e below (T5.setTop (mkF m 47 #[.val (.ref a), .val (.ref b), .val (.int (if xs = ys then (1 : Int32) else 0))] [(.int (if xs = ys then (1 : Int32) else 0))])) _
    exact retN X5 hx (t := .boolean) Bd.returns (by simp) (hb hby own_d_prog_27_method_11_code_47) hr
  · show Q_own_same Z a b x y tx ty kx ky xs ys G1 h0 n0 _ T5.heap _
    rw [hh5]
    exact ⟨(by rw [own_narif]), N5, rfl⟩
theorem own_two {a b x y e : Int32} (h : e = (if a = x then (if b = y then (1 : Int32) else (0 : Int32)) else (0 : Int32))) : (if ([a, b] : List Int32) = ([x, y] : List Int32) then (1 : Int32) else 0) = e := by
  subst h
  by_cases h1 : a = x <;> by_cases h2 : b = y <;> simp [h1, h2]
theorem own_pn_own_law : plainName "com/example/holdfast/holdfast/ServerRunOfPinLaw" = true := by first | (simp [plainName, overriddenIn]; done) | decide +kernel
theorem own_ef_own_law (m : MethodId) (j0 : Int32) (q1 : Int64) (q2 : Int64) (j3 : Int32) : entryFrame m #[(.int j0), (.long q1), (.long q2), (.int j3)] maxLocals = mkF m 0 #[.val (.int j0), .val (.long q1), .second, .val (.long q2), .second, .val (.int j3), .unset, .unset, .unset, .unset, .unset, .unset, .unset, .unset, .unset, .unset, .unset, .unset, .unset] [] := by first | (simp [entryFrame, mkF, argsToLocals, own_cI, own_cJ, own_cR, own_cN, maxLocals]; done) | rfl
abbrev own_F_own_law (m : MethodId) (j0 : Int32) (q1 : Int64) (q2 : Int64) (j3 : Int32) : JFrame := entryFrame m #[(.int j0), (.long q1), (.long q2), (.int j3)] maxLocals
def Q_own_law (Z : State) (j0 : Int32) (q1 : Int64) (q2 : Int64) (j3 : Int32) (G1 : Int32) (h0 : Heap) (n0 : Nat) (v : Option Value) (h : Heap) (L : List Loc) : Prop := v = some (.int (1 : Int32)) ∧ Fr n0 L
set_option maxRecDepth 65536 in
set_option maxHeartbeats 40000000 in
theorem own_law (l : Launch) (Z : State) (a0 : Array Value) (hw : ∀ d ∈ tables_1, d.before a0 Z = true) (ws : List Jvm.Cond) (j0 : Int32) (q1 : Int64) (q2 : Int64) (j3 : Int32) (G1 : Int32) (h0 : Heap) (n0 : Nat) (O0 : Old Z n0 h0) (hp0 : Sta Z Z.heap "java/lang/String" "COMPACT_STRINGS" "Z" (.int G1)) (hG1 : ¬ G1 = (0 : Int32)) :
    MetFree l x (head1 (Jvm.Cond.code x code maxLocals ret :: ws) room_1) (fun aa_ U_ => aa_ = #[(.int j0), (.long q1), (.long q2), (.int j3)] ∧ Z.Warmed39 U_.vm ∧ U_.heap = h0) (fun _ _ _ _ _ => True) (fun _ U_ o_ V_ => ∃ v_ L_, o_ = .returned v_ ∧ Q_own_law Z j0 q1 q2 j3 G1 h0 n0 v_ V_.heap L_ ∧ FrameEnd U_ o_ V_ L_ room_1.cells room_1.slots) := by
  refine MetFree.of_bodySF (plainFor_of_name own_pn_own_law) hisR ?_
  intro p e s m args below meth c s₁ Bd hml0 hP hK
  obtain ⟨rfl, hZ, hh⟩ := hP
  have hx := Bd.exec
  have hby := Bd.bytes
  have hml : c.maxLocals = 19 := hml0
  have hown : s.vm.findClass "com/example/holdfast/holdfast/ServerRunOfPinLaw" = some m.cls := findClass_of_methodNamed Bd.named
  have hnm := (name_of_methodNamed Bd.named Bd.method).1
  have X0 : Stand p l e room_1 s m #[(.int j0), (.long q1), (.long q2), (.int j3)] below meth c s₁ [] 0 0 := Stand.of_body Bd
  have e0 : s₁.heap = h0 := by rw [← hh, Bd.state]; rfl
  have N0 := Fr.nil n0
  have K0 : Keep h0 h0 [] := Keep.refl _ _
  have r0 : GoTo p.tables e below s₁ (own_F_own_law m j0 q1 q2 j3) s₁ (mkF m 0 #[.val (.int j0), .val (.long q1), .second, .val (.long q2), .second, .val (.int j3), .unset, .unset, .unset, .unset, .unset, .unset, .unset, .unset, .unset, .unset, .unset, .unset, .unset] []) := fun tt_ kk_ => castTop (own_ef_own_law m j0 q1 q2 j3) kk_
  have r1 : GoTo p.tables e below s₁ (own_F_own_law m j0 q1 q2 j3) s₁ (mkF m 4 #[.val (.int j0), .val (.long q1), .second, .val (.long q2), .second, .val (.int j3), .unset, .unset, .unset, .unset, .unset, .unset, .unset, .unset, .unset, .unset, .unset, .unset, .unset] [(.int (j3 &&& (1 : Int32)))]) := fun tt_ kk_ => r0 tt_ (by
      show Steps p.tables e below (s₁.setTop (mkF m 0 #[.val (.int j0), .val (.long q1), .second, .val (.long q2), .second, .val (.int j3), .unset, .unset, .unset, .unset, .unset, .unset, .unset, .unset, .unset, .unset, .unset, .unset, .unset] [])) _
      refine XS.iload X0.here hx rfl (hb hby at_0) rfl ?_
      show Steps p.tables e below (s₁.setTop (mkF m 2 #[.val (.int j0), .val (.long q1), .second, .val (.long q2), .second, .val (.int j3), .unset, .unset, .unset, .unset, .unset, .unset, .unset, .unset, .unset, .unset, .unset, .unset, .unset] [(.int j3)])) _
      refine XS.iconst X0.here hx rfl (hb hby at_2) ?_
      show Steps p.tables e below (s₁.setTop (mkF m 3 #[.val (.int j0), .val (.long q1), .second, .val (.long q2), .second, .val (.int j3), .unset, .unset, .unset, .unset, .unset, .unset, .unset, .unset, .unset, .unset, .unset, .unset, .unset] [(.int (1 : Int32)), (.int j3)])) _
      refine XS.iand X0.here hx rfl (hb hby at_3) rfl ?_
      show Steps p.tables e below (s₁.setTop (mkF m 4 #[.val (.int j0), .val (.long q1), .second, .val (.long q2), .second, .val (.int j3), .unset, .unset, .unset, .unset, .unset, .unset, .unset, .unset, .unset, .unset, .unset, .unset, .unset] [(.int (j3 &&& (1 : Int32)))])) _
      exact kk_)
  obtain ⟨T2, Lj2, X2, N2, e2, r2⟩ : ∃ (T' : State) (L' : List Loc), Stand p l e room_1 s m #[(.int j0), (.long q1), (.long q2), (.int j3)] below meth c T' L' 0 0 ∧ Fr n0 L' ∧ T'.heap = h0 ∧ GoTo p.tables e below s₁ (own_F_own_law m j0 q1 q2 j3) T' (mkF m 12 #[.val (.int j0), .val (.long q1), .second, .val (.long q2), .second, .val (.int j3), .unset, .unset, .unset, .unset, .unset, .unset, .unset, .unset, .unset, .unset, .unset, .unset, .unset] [(.int (if (j3 &&& (1 : Int32)) = (0 : Int32) then (0 : Int32) else (1 : Int32)))]) := by
    by_cases hc3 : (j3 &&& (1 : Int32)) = (0 : Int32)
    · have r4 : GoTo p.tables e below s₁ (own_F_own_law m j0 q1 q2 j3) s₁ (mkF m 12 #[.val (.int j0), .val (.long q1), .second, .val (.long q2), .second, .val (.int j3), .unset, .unset, .unset, .unset, .unset, .unset, .unset, .unset, .unset, .unset, .unset, .unset, .unset] [(.int (0 : Int32))]) := fun tt_ kk_ => r1 tt_ (by
          show Steps p.tables e below (s₁.setTop (mkF m 4 #[.val (.int j0), .val (.long q1), .second, .val (.long q2), .second, .val (.int j3), .unset, .unset, .unset, .unset, .unset, .unset, .unset, .unset, .unset, .unset, .unset, .unset, .unset] [(.int (j3 &&& (1 : Int32)))])) _
          refine XS.ifYes X0.here hx rfl (pc0 := 4) (pc' := 11) rfl (hb hby at_4) rfl ((if0 _ _).trans (teq hc3).1) (by decide) (by decide) ?_
          show Steps p.tables e below (s₁.setTop (mkF m 11 #[.val (.int j0), .val (.long q1), .second, .val (.long q2), .second, .val (.int j3), .unset, .unset, .unset, .unset, .unset, .unset, .unset, .unset, .unset, .unset, .unset, .unset, .unset] [])) _
          refine XS.iconst X0.here hx rfl (hb hby at_11) ?_
          show Steps p.tables e below (s₁.setTop (mkF m 12 #[.val (.int j0), .val (.long q1), .second, .val (.long q2), .second, .val (.int j3), .unset, .unset, .unset, .unset, .unset, .unset, .unset, .unset, .unset, .unset, .unset, .unset, .unset] [(.int (0 : Int32))])) _
          exact kk_)
      exact ⟨s₁, _, X0, N0, e0, by rw [show (if (j3 &&& (1 : Int32)) = (0 : Int32) then (0 : Int32) else (1 : Int32)) = (0 : Int32) from (if_pos hc3)]; exact r4⟩
    · have r5 : GoTo p.tables e below s₁ (own_F_own_law m j0 q1 q2 j3) s₁ (mkF m 12 #[.val (.int j0), .val (.long q1), .second, .val (.long q2), .second, .val (.int j3), .unset, .unset, .unset, .unset, .unset, .unset, .unset, .unset, .unset, .unset, .unset, .unset, .unset] [(.int (1 : Int32))]) := fun tt_ kk_ => r1 tt_ (by
          show Steps p.tables e below (s₁.setTop (mkF m 4 #[.val (.int j0), .val (.long q1), .second, .val (.long q2), .second, .val (.int j3), .unset, .unset, .unset, .unset, .unset, .unset, .unset, .unset, .unset, .unset, .unset, .unset, .unset] [(.int (j3 &&& (1 : Int32)))])) _
          refine XS.ifNo X0.here hx rfl (hb hby at_4) rfl ((if0 _ _).trans (feq hc3).1) ?_
          show Steps p.tables e below (s₁.setTop (mkF m 7 #[.val (.int j0), .val (.long q1), .second, .val (.long q2), .second, .val (.int j3), .unset, .unset, .unset, .unset, .unset, .unset, .unset, .unset, .unset, .unset, .unset, .unset, .unset] [])) _
          refine XS.iconst X0.here hx rfl (hb hby at_7) ?_
          show Steps p.tables e below (s₁.setTop (mkF m 8 #[.val (.int j0), .val (.long q1), .second, .val (.long q2), .second, .val (.int j3), .unset, .unset, .unset, .unset, .unset, .unset, .unset, .unset, .unset, .unset, .unset, .unset, .unset] [(.int (1 : Int32))])) _
          refine XS.goto X0.here hx rfl (pc0 := 8) (pc' := 12) rfl (hb hby at_8) (by decide) (by decide) ?_
          show Steps p.tables e below (s₁.setTop (mkF m 12 #[.val (.int j0), .val (.long q1), .second, .val (.long q2), .second, .val (.int j3), .unset, .unset, .unset, .unset, .unset, .unset, .unset, .unset, .unset, .unset, .unset, .unset, .unset] [(.int (1 : Int32))])) _
          exact kk_)
      exact ⟨s₁, _, X0, N0, e0, by rw [show (if (j3 &&& (1 : Int32)) = (0 : Int32) then (0 : Int32) else (1 : Int32)) = (1 : Int32) from (if_neg hc3)]; exact r5⟩
  obtain ⟨pb, h_pb⟩ : ∃ z : Int32, z = (if (j3 &&& (1 : Int32)) = (0 : Int32) then (0 : Int32) else (1 : Int32)) := ⟨_, rfl⟩
  have r6 : GoTo p.tables e below s₁ (own_F_own_law m j0 q1 q2 j3) T2 (mkF m 12 #[.val (.int j0), .val (.long q1), .second, .val (.long q2), .second, .val (.int j3), .unset, .unset, .unset, .unset, .unset, .unset, .unset, .unset, .unset, .unset, .unset, .unset, .unset] [(.int pb)]) := by rw [h_pb]; exact r2
  have r7 : GoTo p.tables e below s₁ (own_F_own_law m j0 q1 q2 j3) T2 (mkF m 18 #[.val (.int j0), .val (.long q1), .second, .val (.long q2), .second, .val (.int j3), .val (.int pb), .unset, .unset, .unset, .unset, .unset, .unset, .unset, .unset, .unset, .unset, .unset, .unset] [(.int (j3 &&& (2 : Int32)))]) := fun tt_ kk_ => r6 tt_ (by
      show Steps p.tables e below (T2.setTop (mkF m 12 #[.val (.int j0), .val (.long q1), .second, .val (.long q2), .second, .val (.int j3), .unset, .unset, .unset, .unset, .unset, .unset, .unset, .unset, .unset, .unset, .unset, .unset, .unset] [(.int pb)])) _
      refine XS.istore X2.here hx rfl (hb hby at_12) rfl (l' := #[.val (.int j0), .val (.long q1), .second, .val (.long q2), .second, .val (.int j3), .val (.int pb), .unset, .unset, .unset, .unset, .unset, .unset, .unset, .unset, .unset, .unset, .unset, .unset]) rfl ?_
      show Steps p.tables e below (T2.setTop (mkF m 14 #[.val (.int j0), .val (.long q1), .second, .val (.long q2), .second, .val (.int j3), .val (.int pb), .unset, .unset, .unset, .unset, .unset, .unset, .unset, .unset, .unset, .unset, .unset, .unset] [])) _
      refine XS.iload X2.here hx rfl (hb hby at_14) rfl ?_
      show Steps p.tables e below (T2.setTop (mkF m 16 #[.val (.int j0), .val (.long q1), .second, .val (.long q2), .second, .val (.int j3), .val (.int pb), .unset, .unset, .unset, .unset, .unset, .unset, .unset, .unset, .unset, .unset, .unset, .unset] [(.int j3)])) _
      refine XS.iconst X2.here hx rfl (hb hby at_16) ?_
      show Steps p.tables e below (T2.setTop (mkF m 17 #[.val (.int j0), .val (.long q1), .second, .val (.long q2), .second, .val (.int j3), .val (.int pb), .unset, .unset, .unset, .unset, .unset, .unset, .unset, .unset, .unset, .unset, .unset, .unset] [(.int (2 : Int32)), (.int j3)])) _
      refine XS.iand X2.here hx rfl (hb hby at_17) rfl ?_
      show Steps p.tables e below (T2.setTop (mkF m 18 #[.val (.int j0), .val (.long q1), .second, .val (.long q2), .second, .val (.int j3), .val (.int pb), .unset, .unset, .unset, .unset, .unset, .unset, .unset, .unset, .unset, .unset, .unset, .unset] [(.int (j3 &&& (2 : Int32)))])) _
      exact kk_)
  obtain ⟨T8, Lj8, X8, N8, e8, r8⟩ : ∃ (T' : State) (L' : List Loc), Stand p l e room_1 s m #[(.int j0), (.long q1), (.long q2), (.int j3)] below meth c T' L' 0 0 ∧ Fr n0 L' ∧ T'.heap = h0 ∧ GoTo p.tables e below s₁ (own_F_own_law m j0 q1 q2 j3) T' (mkF m 26 #[.val (.int j0), .val (.long q1), .second, .val (.long q2), .second, .val (.int j3), .val (.int pb), .unset, .unset, .unset, .unset, .unset, .unset, .unset, .unset, .unset, .unset, .unset, .unset] [(.int (if (j3 &&& (2 : Int32)) = (0 : Int32) then (0 : Int32) else (1 : Int32)))]) := by
    by_cases hc9 : (j3 &&& (2 : Int32)) = (0 : Int32)
    · have r10 : GoTo p.tables e below s₁ (own_F_own_law m j0 q1 q2 j3) T2 (mkF m 26 #[.val (.int j0), .val (.long q1), .second, .val (.long q2), .second, .val (.int j3), .val (.int pb), .unset, .unset, .unset, .unset, .unset, .unset, .unset, .unset, .unset, .unset, .unset, .unset] [(.int (0 : Int32))]) := fun tt_ kk_ => r7 tt_ (by
          show Steps p.tables e below (T2.setTop (mkF m 18 #[.val (.int j0), .val (.long q1), .second, .val (.long q2), .second, .val (.int j3), .val (.int pb), .unset, .unset, .unset, .unset, .unset, .unset, .unset, .unset, .unset, .unset, .unset, .unset] [(.int (j3 &&& (2 : Int32)))])) _
          refine XS.ifYes X2.here hx rfl (pc0 := 18) (pc' := 25) rfl (hb hby at_18) rfl ((if0 _ _).trans (teq hc9).1) (by decide) (by decide) ?_
          show Steps p.tables e below (T2.setTop (mkF m 25 #[.val (.int j0), .val (.long q1), .second, .val (.long q2), .second, .val (.int j3), .val (.int pb), .unset, .unset, .unset, .unset, .unset, .unset, .unset, .unset, .unset, .unset, .unset, .unset] [])) _
          refine XS.iconst X2.here hx rfl (hb hby at_25) ?_
          show Steps p.tables e below (T2.setTop (mkF m 26 #[.val (.int j0), .val (.long q1), .second, .val (.long q2), .second, .val (.int j3), .val (.int pb), .unset, .unset, .unset, .unset, .unset, .unset, .unset, .unset, .unset, .unset, .unset, .unset] [(.int (0 : Int32))])) _
          exact kk_)
      exact ⟨T2, _, X2, N2, e2, by rw [show (if (j3 &&& (2 : Int32)) = (0 : Int32) then (0 : Int32) else (1 : Int32)) = (0 : Int32) from (if_pos hc9)]; exact r10⟩
    · have r11 : GoTo p.tables e below s₁ (own_F_own_law m j0 q1 q2 j3) T2 (mkF m 26 #[.val (.int j0), .val (.long q1), .second, .val (.long q2), .second, .val (.int j3), .val (.int pb), .unset, .unset, .unset, .unset, .unset, .unset, .unset, .unset, .unset, .unset, .unset, .unset] [(.int (1 : Int32))]) := fun tt_ kk_ => r7 tt_ (by
          show Steps p.tables e below (T2.setTop (mkF m 18 #[.val (.int j0), .val (.long q1), .second, .val (.long q2), .second, .val (.int j3), .val (.int pb), .unset, .unset, .unset, .unset, .unset, .unset, .unset, .unset, .unset, .unset, .unset, .unset] [(.int (j3 &&& (2 : Int32)))])) _
          refine XS.ifNo X2.here hx rfl (hb hby at_18) rfl ((if0 _ _).trans (feq hc9).1) ?_
          show Steps p.tables e below (T2.setTop (mkF m 21 #[.val (.int j0), .val (.long q1), .second, .val (.long q2), .second, .val (.int j3), .val (.int pb), .unset, .unset, .unset, .unset, .unset, .unset, .unset, .unset, .unset, .unset, .unset, .unset] [])) _
          refine XS.iconst X2.here hx rfl (hb hby at_21) ?_
          show Steps p.tables e below (T2.setTop (mkF m 22 #[.val (.int j0), .val (.long q1), .second, .val (.long q2), .second, .val (.int j3), .val (.int pb), .unset, .unset, .unset, .unset, .unset, .unset, .unset, .unset, .unset, .unset, .unset, .unset] [(.int (1 : Int32))])) _
          refine XS.goto X2.here hx rfl (pc0 := 22) (pc' := 26) rfl (hb hby at_22) (by decide) (by decide) ?_
          show Steps p.tables e below (T2.setTop (mkF m 26 #[.val (.int j0), .val (.long q1), .second, .val (.long q2), .second, .val (.int j3), .val (.int pb), .unset, .unset, .unset, .unset, .unset, .unset, .unset, .unset, .unset, .unset, .unset, .unset] [(.int (1 : Int32))])) _
          exact kk_)
      exact ⟨T2, _, X2, N2, e2, by rw [show (if (j3 &&& (2 : Int32)) = (0 : Int32) then (0 : Int32) else (1 : Int32)) = (1 : Int32) from (if_neg hc9)]; exact r11⟩
  obtain ⟨sc, h_sc⟩ : ∃ z : Int32, z = (if (j3 &&& (2 : Int32)) = (0 : Int32) then (0 : Int32) else (1 : Int32)) := ⟨_, rfl⟩
  have r12 : GoTo p.tables e below s₁ (own_F_own_law m j0 q1 q2 j3) T8 (mkF m 26 #[.val (.int j0), .val (.long q1), .second, .val (.long q2), .second, .val (.int j3), .val (.int pb), .unset, .unset, .unset, .unset, .unset, .unset, .unset, .unset, .unset, .unset, .unset, .unset] [(.int sc)]) := by rw [h_sc]; exact r8
  have r13 : GoTo p.tables e below s₁ (own_F_own_law m j0 q1 q2 j3) T8 (mkF m 32 #[.val (.int j0), .val (.long q1), .second, .val (.long q2), .second, .val (.int j3), .val (.int pb), .val (.int sc), .unset, .unset, .unset, .unset, .unset, .unset, .unset, .unset, .unset, .unset, .unset] [(.int (j3 &&& (4 : Int32)))]) := fun tt_ kk_ => r12 tt_ (by
      show Steps p.tables e below (T8.setTop (mkF m 26 #[.val (.int j0), .val (.long q1), .second, .val (.long q2), .second, .val (.int j3), .val (.int pb), .unset, .unset, .unset, .unset, .unset, .unset, .unset, .unset, .unset, .unset, .unset, .unset] [(.int sc)])) _
      refine XS.istore X8.here hx rfl (hb hby at_26) rfl (l' := #[.val (.int j0), .val (.long q1), .second, .val (.long q2), .second, .val (.int j3), .val (.int pb), .val (.int sc), .unset, .unset, .unset, .unset, .unset, .unset, .unset, .unset, .unset, .unset, .unset]) rfl ?_
      show Steps p.tables e below (T8.setTop (mkF m 28 #[.val (.int j0), .val (.long q1), .second, .val (.long q2), .second, .val (.int j3), .val (.int pb), .val (.int sc), .unset, .unset, .unset, .unset, .unset, .unset, .unset, .unset, .unset, .unset, .unset] [])) _
      refine XS.iload X8.here hx rfl (hb hby at_28) rfl ?_
      show Steps p.tables e below (T8.setTop (mkF m 30 #[.val (.int j0), .val (.long q1), .second, .val (.long q2), .second, .val (.int j3), .val (.int pb), .val (.int sc), .unset, .unset, .unset, .unset, .unset, .unset, .unset, .unset, .unset, .unset, .unset] [(.int j3)])) _
      refine XS.iconst X8.here hx rfl (hb hby at_30) ?_
      show Steps p.tables e below (T8.setTop (mkF m 31 #[.val (.int j0), .val (.long q1), .second, .val (.long q2), .second, .val (.int j3), .val (.int pb), .val (.int sc), .unset, .unset, .unset, .unset, .unset, .unset, .unset, .unset, .unset, .unset, .unset] [(.int (4 : Int32)), (.int j3)])) _
      refine XS.iand X8.here hx rfl (hb hby at_31) rfl ?_
      show Steps p.tables e below (T8.setTop (mkF m 32 #[.val (.int j0), .val (.long q1), .second, .val (.long q2), .second, .val (.int j3), .val (.int pb), .val (.int sc), .unset, .unset, .unset, .unset, .unset, .unset, .unset, .unset, .unset, .unset, .unset] [(.int (j3 &&& (4 : Int32)))])) _
      exact kk_)
  obtain ⟨T14, Lj14, X14, N14, e14, r14⟩ : ∃ (T' : State) (L' : List Loc), Stand p l e room_1 s m #[(.int j0), (.long q1), (.long q2), (.int j3)] below meth c T' L' 0 0 ∧ Fr n0 L' ∧ T'.heap = h0 ∧ GoTo p.tables e below s₁ (own_F_own_law m j0 q1 q2 j3) T' (mkF m 40 #[.val (.int j0), .val (.long q1), .second, .val (.long q2), .second, .val (.int j3), .val (.int pb), .val (.int sc), .unset, .unset, .unset, .unset, .unset, .unset, .unset, .unset, .unset, .unset, .unset] [(.int (if (j3 &&& (4 : Int32)) = (0 : Int32) then (0 : Int32) else (1 : Int32)))]) := by
    by_cases hc15 : (j3 &&& (4 : Int32)) = (0 : Int32)
    · have r16 : GoTo p.tables e below s₁ (own_F_own_law m j0 q1 q2 j3) T8 (mkF m 40 #[.val (.int j0), .val (.long q1), .second, .val (.long q2), .second, .val (.int j3), .val (.int pb), .val (.int sc), .unset, .unset, .unset, .unset, .unset, .unset, .unset, .unset, .unset, .unset, .unset] [(.int (0 : Int32))]) := fun tt_ kk_ => r13 tt_ (by
          show Steps p.tables e below (T8.setTop (mkF m 32 #[.val (.int j0), .val (.long q1), .second, .val (.long q2), .second, .val (.int j3), .val (.int pb), .val (.int sc), .unset, .unset, .unset, .unset, .unset, .unset, .unset, .unset, .unset, .unset, .unset] [(.int (j3 &&& (4 : Int32)))])) _
          refine XS.ifYes X8.here hx rfl (pc0 := 32) (pc' := 39) rfl (hb hby at_32) rfl ((if0 _ _).trans (teq hc15).1) (by decide) (by decide) ?_
          show Steps p.tables e below (T8.setTop (mkF m 39 #[.val (.int j0), .val (.long q1), .second, .val (.long q2), .second, .val (.int j3), .val (.int pb), .val (.int sc), .unset, .unset, .unset, .unset, .unset, .unset, .unset, .unset, .unset, .unset, .unset] [])) _
          refine XS.iconst X8.here hx rfl (hb hby at_39) ?_
          show Steps p.tables e below (T8.setTop (mkF m 40 #[.val (.int j0), .val (.long q1), .second, .val (.long q2), .second, .val (.int j3), .val (.int pb), .val (.int sc), .unset, .unset, .unset, .unset, .unset, .unset, .unset, .unset, .unset, .unset, .unset] [(.int (0 : Int32))])) _
          exact kk_)
      exact ⟨T8, _, X8, N8, e8, by rw [show (if (j3 &&& (4 : Int32)) = (0 : Int32) then (0 : Int32) else (1 : Int32)) = (0 : Int32) from (if_pos hc15)]; exact r16⟩
    · have r17 : GoTo p.tables e below s₁ (own_F_own_law m j0 q1 q2 j3) T8 (mkF m 40 #[.val (.int j0), .val (.long q1), .second, .val (.long q2), .second, .val (.int j3), .val (.int pb), .val (.int sc), .unset, .unset, .unset, .unset, .unset, .unset, .unset, .unset, .unset, .unset, .unset] [(.int (1 : Int32))]) := fun tt_ kk_ => r13 tt_ (by
          show Steps p.tables e below (T8.setTop (mkF m 32 #[.val (.int j0), .val (.long q1), .second, .val (.long q2), .second, .val (.int j3), .val (.int pb), .val (.int sc), .unset, .unset, .unset, .unset, .unset, .unset, .unset, .unset, .unset, .unset, .unset] [(.int (j3 &&& (4 : Int32)))])) _
          refine XS.ifNo X8.here hx rfl (hb hby at_32) rfl ((if0 _ _).trans (feq hc15).1) ?_
          show Steps p.tables e below (T8.setTop (mkF m 35 #[.val (.int j0), .val (.long q1), .second, .val (.long q2), .second, .val (.int j3), .val (.int pb), .val (.int sc), .unset, .unset, .unset, .unset, .unset, .unset, .unset, .unset, .unset, .unset, .unset] [])) _
          refine XS.iconst X8.here hx rfl (hb hby at_35) ?_
          show Steps p.tables e below (T8.setTop (mkF m 36 #[.val (.int j0), .val (.long q1), .second, .val (.long q2), .second, .val (.int j3), .val (.int pb), .val (.int sc), .unset, .unset, .unset, .unset, .unset, .unset, .unset, .unset, .unset, .unset, .unset] [(.int (1 : Int32))])) _
          refine XS.goto X8.here hx rfl (pc0 := 36) (pc' := 40) rfl (hb hby at_36) (by decide) (by decide) ?_
          show Steps p.tables e below (T8.setTop (mkF m 40 #[.val (.int j0), .val (.long q1), .second, .val (.long q2), .second, .val (.int j3), .val (.int pb), .val (.int sc), .unset, .unset, .unset, .unset, .unset, .unset, .unset, .unset, .unset, .unset, .unset] [(.int (1 : Int32))])) _
          exact kk_)
      exact ⟨T8, _, X8, N8, e8, by rw [show (if (j3 &&& (4 : Int32)) = (0 : Int32) then (0 : Int32) else (1 : Int32)) = (1 : Int32) from (if_neg hc15)]; exact r17⟩
  obtain ⟨pb2, h_pb2⟩ : ∃ z : Int32, z = (if (j3 &&& (4 : Int32)) = (0 : Int32) then (0 : Int32) else (1 : Int32)) := ⟨_, rfl⟩
  have r18 : GoTo p.tables e below s₁ (own_F_own_law m j0 q1 q2 j3) T14 (mkF m 40 #[.val (.int j0), .val (.long q1), .second, .val (.long q2), .second, .val (.int j3), .val (.int pb), .val (.int sc), .unset, .unset, .unset, .unset, .unset, .unset, .unset, .unset, .unset, .unset, .unset] [(.int pb2)]) := by rw [h_pb2]; exact r14
  have hn_pb := own_narb h_pb
  have hn_pb2 := own_narb h_pb2
  have r19 : GoTo p.tables e below s₁ (own_F_own_law m j0 q1 q2 j3) T14 (mkF m 48 #[.val (.int j0), .val (.long q1), .second, .val (.long q2), .second, .val (.int j3), .val (.int pb), .val (.int sc), .val (.int pb2), .unset, .unset, .unset, .unset, .unset, .unset, .unset, .unset, .unset, .unset] [(.int ((j0 &&& (255 : Int32)).toUInt32.toUInt16.toUInt32.toInt32))]) := fun tt_ kk_ => r18 tt_ (by
      show Steps p.tables e below (T14.setTop (mkF m 40 #[.val (.int j0), .val (.long q1), .second, .val (.long q2), .second, .val (.int j3), .val (.int pb), .val (.int sc), .unset, .unset, .unset, .unset, .unset, .unset, .unset, .unset, .unset, .unset, .unset] [(.int pb2)])) _
      refine XS.istore X14.here hx rfl (hb hby at_40) rfl (l' := #[.val (.int j0), .val (.long q1), .second, .val (.long q2), .second, .val (.int j3), .val (.int pb), .val (.int sc), .val (.int pb2), .unset, .unset, .unset, .unset, .unset, .unset, .unset, .unset, .unset, .unset]) rfl ?_
      show Steps p.tables e below (T14.setTop (mkF m 42 #[.val (.int j0), .val (.long q1), .second, .val (.long q2), .second, .val (.int j3), .val (.int pb), .val (.int sc), .val (.int pb2), .unset, .unset, .unset, .unset, .unset, .unset, .unset, .unset, .unset, .unset] [])) _
      refine XS.iloadN X14.here hx rfl (hb hby at_42) rfl ?_
      show Steps p.tables e below (T14.setTop (mkF m 43 #[.val (.int j0), .val (.long q1), .second, .val (.long q2), .second, .val (.int j3), .val (.int pb), .val (.int sc), .val (.int pb2), .unset, .unset, .unset, .unset, .unset, .unset, .unset, .unset, .unset, .unset] [(.int j0)])) _
      refine XS.sipush X14.here hx rfl (hb hby at_43) ?_
      show Steps p.tables e below (T14.setTop (mkF m 46 #[.val (.int j0), .val (.long q1), .second, .val (.long q2), .second, .val (.int j3), .val (.int pb), .val (.int sc), .val (.int pb2), .unset, .unset, .unset, .unset, .unset, .unset, .unset, .unset, .unset, .unset] [(.int (255 : Int32)), (.int j0)])) _
      refine XS.iand X14.here hx rfl (hb hby at_46) rfl ?_
      show Steps p.tables e below (T14.setTop (mkF m 47 #[.val (.int j0), .val (.long q1), .second, .val (.long q2), .second, .val (.int j3), .val (.int pb), .val (.int sc), .val (.int pb2), .unset, .unset, .unset, .unset, .unset, .unset, .unset, .unset, .unset, .unset] [(.int (j0 &&& (255 : Int32)))])) _
      refine XS.i2c X14.here hx rfl (hb hby at_47) rfl ?_
      show Steps p.tables e below (T14.setTop (mkF m 48 #[.val (.int j0), .val (.long q1), .second, .val (.long q2), .second, .val (.int j3), .val (.int pb), .val (.int sc), .val (.int pb2), .unset, .unset, .unset, .unset, .unset, .unset, .unset, .unset, .unset, .unset] [(.int ((j0 &&& (255 : Int32)).toUInt32.toUInt16.toUInt32.toInt32))])) _
      exact kk_)
  obtain ⟨c0, h_c0⟩ : ∃ z : Int32, z = ((j0 &&& (255 : Int32)).toUInt32.toUInt16.toUInt32.toInt32) := ⟨_, rfl⟩
  have r20 : GoTo p.tables e below s₁ (own_F_own_law m j0 q1 q2 j3) T14 (mkF m 48 #[.val (.int j0), .val (.long q1), .second, .val (.long q2), .second, .val (.int j3), .val (.int pb), .val (.int sc), .val (.int pb2), .unset, .unset, .unset, .unset, .unset, .unset, .unset, .unset, .unset, .unset] [(.int c0)]) := by rw [h_c0]; exact r19
  have hr_c0 := own_chr j0 h_c0
  have r21 : GoTo p.tables e below s₁ (own_F_own_law m j0 q1 q2 j3) T14 (mkF m 59 #[.val (.int j0), .val (.long q1), .second, .val (.long q2), .second, .val (.int j3), .val (.int pb), .val (.int sc), .val (.int pb2), .val (.int c0), .unset, .unset, .unset, .unset, .unset, .unset, .unset, .unset, .unset] [(.int ((((j0.toUInt32 >>> ((8 : Int32) &&& 31).toUInt32).toInt32) &&& (255 : Int32)).toUInt32.toUInt16.toUInt32.toInt32))]) := fun tt_ kk_ => r20 tt_ (by
      show Steps p.tables e below (T14.setTop (mkF m 48 #[.val (.int j0), .val (.long q1), .second, .val (.long q2), .second, .val (.int j3), .val (.int pb), .val (.int sc), .val (.int pb2), .unset, .unset, .unset, .unset, .unset, .unset, .unset, .unset, .unset, .unset] [(.int c0)])) _
      refine XS.istore X14.here hx rfl (hb hby at_48) rfl (l' := #[.val (.int j0), .val (.long q1), .second, .val (.long q2), .second, .val (.int j3), .val (.int pb), .val (.int sc), .val (.int pb2), .val (.int c0), .unset, .unset, .unset, .unset, .unset, .unset, .unset, .unset, .unset]) rfl ?_
      show Steps p.tables e below (T14.setTop (mkF m 50 #[.val (.int j0), .val (.long q1), .second, .val (.long q2), .second, .val (.int j3), .val (.int pb), .val (.int sc), .val (.int pb2), .val (.int c0), .unset, .unset, .unset, .unset, .unset, .unset, .unset, .unset, .unset] [])) _
      refine XS.iloadN X14.here hx rfl (hb hby at_50) rfl ?_
      show Steps p.tables e below (T14.setTop (mkF m 51 #[.val (.int j0), .val (.long q1), .second, .val (.long q2), .second, .val (.int j3), .val (.int pb), .val (.int sc), .val (.int pb2), .val (.int c0), .unset, .unset, .unset, .unset, .unset, .unset, .unset, .unset, .unset] [(.int j0)])) _
      refine XS.bipush X14.here hx rfl (hb hby at_51) ?_
      show Steps p.tables e below (T14.setTop (mkF m 53 #[.val (.int j0), .val (.long q1), .second, .val (.long q2), .second, .val (.int j3), .val (.int pb), .val (.int sc), .val (.int pb2), .val (.int c0), .unset, .unset, .unset, .unset, .unset, .unset, .unset, .unset, .unset] [(.int (8 : Int32)), (.int j0)])) _
      refine XS.iushr X14.here hx rfl (hb hby at_53) rfl ?_
      show Steps p.tables e below (T14.setTop (mkF m 54 #[.val (.int j0), .val (.long q1), .second, .val (.long q2), .second, .val (.int j3), .val (.int pb), .val (.int sc), .val (.int pb2), .val (.int c0), .unset, .unset, .unset, .unset, .unset, .unset, .unset, .unset, .unset] [(.int ((j0.toUInt32 >>> ((8 : Int32) &&& 31).toUInt32).toInt32))])) _
      refine XS.sipush X14.here hx rfl (hb hby at_54) ?_
      show Steps p.tables e below (T14.setTop (mkF m 57 #[.val (.int j0), .val (.long q1), .second, .val (.long q2), .second, .val (.int j3), .val (.int pb), .val (.int sc), .val (.int pb2), .val (.int c0), .unset, .unset, .unset, .unset, .unset, .unset, .unset, .unset, .unset] [(.int (255 : Int32)), (.int ((j0.toUInt32 >>> ((8 : Int32) &&& 31).toUInt32).toInt32))])) _
      refine XS.iand X14.here hx rfl (hb hby at_57) rfl ?_
      show Steps p.tables e below (T14.setTop (mkF m 58 #[.val (.int j0), .val (.long q1), .second, .val (.long q2), .second, .val (.int j3), .val (.int pb), .val (.int sc), .val (.int pb2), .val (.int c0), .unset, .unset, .unset, .unset, .unset, .unset, .unset, .unset, .unset] [(.int (((j0.toUInt32 >>> ((8 : Int32) &&& 31).toUInt32).toInt32) &&& (255 : Int32)))])) _
      refine XS.i2c X14.here hx rfl (hb hby at_58) rfl ?_
      show Steps p.tables e below (T14.setTop (mkF m 59 #[.val (.int j0), .val (.long q1), .second, .val (.long q2), .second, .val (.int j3), .val (.int pb), .val (.int sc), .val (.int pb2), .val (.int c0), .unset, .unset, .unset, .unset, .unset, .unset, .unset, .unset, .unset] [(.int ((((j0.toUInt32 >>> ((8 : Int32) &&& 31).toUInt32).toInt32) &&& (255 : Int32)).toUInt32.toUInt16.toUInt32.toInt32))])) _
      exact kk_)
  obtain ⟨c1, h_c1⟩ : ∃ z : Int32, z = ((((j0.toUInt32 >>> ((8 : Int32) &&& 31).toUInt32).toInt32) &&& (255 : Int32)).toUInt32.toUInt16.toUInt32.toInt32) := ⟨_, rfl⟩
  have r22 : GoTo p.tables e below s₁ (own_F_own_law m j0 q1 q2 j3) T14 (mkF m 59 #[.val (.int j0), .val (.long q1), .second, .val (.long q2), .second, .val (.int j3), .val (.int pb), .val (.int sc), .val (.int pb2), .val (.int c0), .unset, .unset, .unset, .unset, .unset, .unset, .unset, .unset, .unset] [(.int c1)]) := by rw [h_c1]; exact r21
  have hr_c1 := own_chr ((j0.toUInt32 >>> ((8 : Int32) &&& 31).toUInt32).toInt32) h_c1
  have r23 : GoTo p.tables e below s₁ (own_F_own_law m j0 q1 q2 j3) T14 (mkF m 70 #[.val (.int j0), .val (.long q1), .second, .val (.long q2), .second, .val (.int j3), .val (.int pb), .val (.int sc), .val (.int pb2), .val (.int c0), .val (.int c1), .unset, .unset, .unset, .unset, .unset, .unset, .unset, .unset] [(.int ((((j0.toUInt32 >>> ((16 : Int32) &&& 31).toUInt32).toInt32) &&& (255 : Int32)).toUInt32.toUInt16.toUInt32.toInt32))]) := fun tt_ kk_ => r22 tt_ (by
      show Steps p.tables e below (T14.setTop (mkF m 59 #[.val (.int j0), .val (.long q1), .second, .val (.long q2), .second, .val (.int j3), .val (.int pb), .val (.int sc), .val (.int pb2), .val (.int c0), .unset, .unset, .unset, .unset, .unset, .unset, .unset, .unset, .unset] [(.int c1)])) _
      refine XS.istore X14.here hx rfl (hb hby at_59) rfl (l' := #[.val (.int j0), .val (.long q1), .second, .val (.long q2), .second, .val (.int j3), .val (.int pb), .val (.int sc), .val (.int pb2), .val (.int c0), .val (.int c1), .unset, .unset, .unset, .unset, .unset, .unset, .unset, .unset]) rfl ?_
      show Steps p.tables e below (T14.setTop (mkF m 61 #[.val (.int j0), .val (.long q1), .second, .val (.long q2), .second, .val (.int j3), .val (.int pb), .val (.int sc), .val (.int pb2), .val (.int c0), .val (.int c1), .unset, .unset, .unset, .unset, .unset, .unset, .unset, .unset] [])) _
      refine XS.iloadN X14.here hx rfl (hb hby at_61) rfl ?_
      show Steps p.tables e below (T14.setTop (mkF m 62 #[.val (.int j0), .val (.long q1), .second, .val (.long q2), .second, .val (.int j3), .val (.int pb), .val (.int sc), .val (.int pb2), .val (.int c0), .val (.int c1), .unset, .unset, .unset, .unset, .unset, .unset, .unset, .unset] [(.int j0)])) _
      refine XS.bipush X14.here hx rfl (hb hby at_62) ?_
      show Steps p.tables e below (T14.setTop (mkF m 64 #[.val (.int j0), .val (.long q1), .second, .val (.long q2), .second, .val (.int j3), .val (.int pb), .val (.int sc), .val (.int pb2), .val (.int c0), .val (.int c1), .unset, .unset, .unset, .unset, .unset, .unset, .unset, .unset] [(.int (16 : Int32)), (.int j0)])) _
      refine XS.iushr X14.here hx rfl (hb hby at_64) rfl ?_
      show Steps p.tables e below (T14.setTop (mkF m 65 #[.val (.int j0), .val (.long q1), .second, .val (.long q2), .second, .val (.int j3), .val (.int pb), .val (.int sc), .val (.int pb2), .val (.int c0), .val (.int c1), .unset, .unset, .unset, .unset, .unset, .unset, .unset, .unset] [(.int ((j0.toUInt32 >>> ((16 : Int32) &&& 31).toUInt32).toInt32))])) _
      refine XS.sipush X14.here hx rfl (hb hby at_65) ?_
      show Steps p.tables e below (T14.setTop (mkF m 68 #[.val (.int j0), .val (.long q1), .second, .val (.long q2), .second, .val (.int j3), .val (.int pb), .val (.int sc), .val (.int pb2), .val (.int c0), .val (.int c1), .unset, .unset, .unset, .unset, .unset, .unset, .unset, .unset] [(.int (255 : Int32)), (.int ((j0.toUInt32 >>> ((16 : Int32) &&& 31).toUInt32).toInt32))])) _
      refine XS.iand X14.here hx rfl (hb hby at_68) rfl ?_
      show Steps p.tables e below (T14.setTop (mkF m 69 #[.val (.int j0), .val (.long q1), .second, .val (.long q2), .second, .val (.int j3), .val (.int pb), .val (.int sc), .val (.int pb2), .val (.int c0), .val (.int c1), .unset, .unset, .unset, .unset, .unset, .unset, .unset, .unset] [(.int (((j0.toUInt32 >>> ((16 : Int32) &&& 31).toUInt32).toInt32) &&& (255 : Int32)))])) _
      refine XS.i2c X14.here hx rfl (hb hby at_69) rfl ?_
      show Steps p.tables e below (T14.setTop (mkF m 70 #[.val (.int j0), .val (.long q1), .second, .val (.long q2), .second, .val (.int j3), .val (.int pb), .val (.int sc), .val (.int pb2), .val (.int c0), .val (.int c1), .unset, .unset, .unset, .unset, .unset, .unset, .unset, .unset] [(.int ((((j0.toUInt32 >>> ((16 : Int32) &&& 31).toUInt32).toInt32) &&& (255 : Int32)).toUInt32.toUInt16.toUInt32.toInt32))])) _
      exact kk_)
  obtain ⟨d0, h_d0⟩ : ∃ z : Int32, z = ((((j0.toUInt32 >>> ((16 : Int32) &&& 31).toUInt32).toInt32) &&& (255 : Int32)).toUInt32.toUInt16.toUInt32.toInt32) := ⟨_, rfl⟩
  have r24 : GoTo p.tables e below s₁ (own_F_own_law m j0 q1 q2 j3) T14 (mkF m 70 #[.val (.int j0), .val (.long q1), .second, .val (.long q2), .second, .val (.int j3), .val (.int pb), .val (.int sc), .val (.int pb2), .val (.int c0), .val (.int c1), .unset, .unset, .unset, .unset, .unset, .unset, .unset, .unset] [(.int d0)]) := by rw [h_d0]; exact r23
  have hr_d0 := own_chr ((j0.toUInt32 >>> ((16 : Int32) &&& 31).toUInt32).toInt32) h_d0
  have r25 : GoTo p.tables e below s₁ (own_F_own_law m j0 q1 q2 j3) T14 (mkF m 81 #[.val (.int j0), .val (.long q1), .second, .val (.long q2), .second, .val (.int j3), .val (.int pb), .val (.int sc), .val (.int pb2), .val (.int c0), .val (.int c1), .val (.int d0), .unset, .unset, .unset, .unset, .unset, .unset, .unset] [(.int ((((j0.toUInt32 >>> ((24 : Int32) &&& 31).toUInt32).toInt32) &&& (255 : Int32)).toUInt32.toUInt16.toUInt32.toInt32))]) := fun tt_ kk_ => r24 tt_ (by
      show Steps p.tables e below (T14.setTop (mkF m 70 #[.val (.int j0), .val (.long q1), .second, .val (.long q2), .second, .val (.int j3), .val (.int pb), .val (.int sc), .val (.int pb2), .val (.int c0), .val (.int c1), .unset, .unset, .unset, .unset, .unset, .unset, .unset, .unset] [(.int d0)])) _
      refine XS.istore X14.here hx rfl (hb hby at_70) rfl (l' := #[.val (.int j0), .val (.long q1), .second, .val (.long q2), .second, .val (.int j3), .val (.int pb), .val (.int sc), .val (.int pb2), .val (.int c0), .val (.int c1), .val (.int d0), .unset, .unset, .unset, .unset, .unset, .unset, .unset]) rfl ?_
      show Steps p.tables e below (T14.setTop (mkF m 72 #[.val (.int j0), .val (.long q1), .second, .val (.long q2), .second, .val (.int j3), .val (.int pb), .val (.int sc), .val (.int pb2), .val (.int c0), .val (.int c1), .val (.int d0), .unset, .unset, .unset, .unset, .unset, .unset, .unset] [])) _
      refine XS.iloadN X14.here hx rfl (hb hby at_72) rfl ?_
      show Steps p.tables e below (T14.setTop (mkF m 73 #[.val (.int j0), .val (.long q1), .second, .val (.long q2), .second, .val (.int j3), .val (.int pb), .val (.int sc), .val (.int pb2), .val (.int c0), .val (.int c1), .val (.int d0), .unset, .unset, .unset, .unset, .unset, .unset, .unset] [(.int j0)])) _
      refine XS.bipush X14.here hx rfl (hb hby at_73) ?_
      show Steps p.tables e below (T14.setTop (mkF m 75 #[.val (.int j0), .val (.long q1), .second, .val (.long q2), .second, .val (.int j3), .val (.int pb), .val (.int sc), .val (.int pb2), .val (.int c0), .val (.int c1), .val (.int d0), .unset, .unset, .unset, .unset, .unset, .unset, .unset] [(.int (24 : Int32)), (.int j0)])) _
      refine XS.iushr X14.here hx rfl (hb hby at_75) rfl ?_
      show Steps p.tables e below (T14.setTop (mkF m 76 #[.val (.int j0), .val (.long q1), .second, .val (.long q2), .second, .val (.int j3), .val (.int pb), .val (.int sc), .val (.int pb2), .val (.int c0), .val (.int c1), .val (.int d0), .unset, .unset, .unset, .unset, .unset, .unset, .unset] [(.int ((j0.toUInt32 >>> ((24 : Int32) &&& 31).toUInt32).toInt32))])) _
      refine XS.sipush X14.here hx rfl (hb hby at_76) ?_
      show Steps p.tables e below (T14.setTop (mkF m 79 #[.val (.int j0), .val (.long q1), .second, .val (.long q2), .second, .val (.int j3), .val (.int pb), .val (.int sc), .val (.int pb2), .val (.int c0), .val (.int c1), .val (.int d0), .unset, .unset, .unset, .unset, .unset, .unset, .unset] [(.int (255 : Int32)), (.int ((j0.toUInt32 >>> ((24 : Int32) &&& 31).toUInt32).toInt32))])) _
      refine XS.iand X14.here hx rfl (hb hby at_79) rfl ?_
      show Steps p.tables e below (T14.setTop (mkF m 80 #[.val (.int j0), .val (.long q1), .second, .val (.long q2), .second, .val (.int j3), .val (.int pb), .val (.int sc), .val (.int pb2), .val (.int c0), .val (.int c1), .val (.int d0), .unset, .unset, .unset, .unset, .unset, .unset, .unset] [(.int (((j0.toUInt32 >>> ((24 : Int32) &&& 31).toUInt32).toInt32) &&& (255 : Int32)))])) _
      refine XS.i2c X14.here hx rfl (hb hby at_80) rfl ?_
      show Steps p.tables e below (T14.setTop (mkF m 81 #[.val (.int j0), .val (.long q1), .second, .val (.long q2), .second, .val (.int j3), .val (.int pb), .val (.int sc), .val (.int pb2), .val (.int c0), .val (.int c1), .val (.int d0), .unset, .unset, .unset, .unset, .unset, .unset, .unset] [(.int ((((j0.toUInt32 >>> ((24 : Int32) &&& 31).toUInt32).toInt32) &&& (255 : Int32)).toUInt32.toUInt16.toUInt32.toInt32))])) _
      exact kk_)
  obtain ⟨d1, h_d1⟩ : ∃ z : Int32, z = ((((j0.toUInt32 >>> ((24 : Int32) &&& 31).toUInt32).toInt32) &&& (255 : Int32)).toUInt32.toUInt16.toUInt32.toInt32) := ⟨_, rfl⟩
  have r26 : GoTo p.tables e below s₁ (own_F_own_law m j0 q1 q2 j3) T14 (mkF m 81 #[.val (.int j0), .val (.long q1), .second, .val (.long q2), .second, .val (.int j3), .val (.int pb), .val (.int sc), .val (.int pb2), .val (.int c0), .val (.int c1), .val (.int d0), .unset, .unset, .unset, .unset, .unset, .unset, .unset] [(.int d1)]) := by rw [h_d1]; exact r25
  have hr_d1 := own_chr ((j0.toUInt32 >>> ((24 : Int32) &&& 31).toUInt32).toInt32) h_d1
  have r27 : GoTo p.tables e below s₁ (own_F_own_law m j0 q1 q2 j3) T14 (mkF m 85 #[.val (.int j0), .val (.long q1), .second, .val (.long q2), .second, .val (.int j3), .val (.int pb), .val (.int sc), .val (.int pb2), .val (.int c0), .val (.int c1), .val (.int d0), .val (.int d1), .unset, .unset, .unset, .unset, .unset, .unset] [(.int sc)]) := fun tt_ kk_ => r26 tt_ (by
      show Steps p.tables e below (T14.setTop (mkF m 81 #[.val (.int j0), .val (.long q1), .second, .val (.long q2), .second, .val (.int j3), .val (.int pb), .val (.int sc), .val (.int pb2), .val (.int c0), .val (.int c1), .val (.int d0), .unset, .unset, .unset, .unset, .unset, .unset, .unset] [(.int d1)])) _
      refine XS.istore X14.here hx rfl (hb hby at_81) rfl (l' := #[.val (.int j0), .val (.long q1), .second, .val (.long q2), .second, .val (.int j3), .val (.int pb), .val (.int sc), .val (.int pb2), .val (.int c0), .val (.int c1), .val (.int d0), .val (.int d1), .unset, .unset, .unset, .unset, .unset, .unset]) rfl ?_
      show Steps p.tables e below (T14.setTop (mkF m 83 #[.val (.int j0), .val (.long q1), .second, .val (.long q2), .second, .val (.int j3), .val (.int pb), .val (.int sc), .val (.int pb2), .val (.int c0), .val (.int c1), .val (.int d0), .val (.int d1), .unset, .unset, .unset, .unset, .unset, .unset] [])) _
      refine XS.iload X14.here hx rfl (hb hby at_83) rfl ?_
      show Steps p.tables e below (T14.setTop (mkF m 85 #[.val (.int j0), .val (.long q1), .second, .val (.long q2), .second, .val (.int j3), .val (.int pb), .val (.int sc), .val (.int pb2), .val (.int c0), .val (.int c1), .val (.int d0), .val (.int d1), .unset, .unset, .unset, .unset, .unset, .unset] [(.int sc)])) _
      exact kk_)
  obtain ⟨T28, Lj28, X28, N28, e28, r28⟩ : ∃ (T' : State) (L' : List Loc), Stand p l e room_1 s m #[(.int j0), (.long q1), (.long q2), (.int j3)] below meth c T' L' 0 0 ∧ Fr n0 L' ∧ T'.heap = h0 ∧ GoTo p.tables e below s₁ (own_F_own_law m j0 q1 q2 j3) T' (mkF m 96 #[.val (.int j0), .val (.long q1), .second, .val (.long q2), .second, .val (.int j3), .val (.int pb), .val (.int sc), .val (.int pb2), .val (.int c0), .val (.int c1), .val (.int (if sc = (0 : Int32) then d0 else c0)), .val (.int (if sc = (0 : Int32) then d1 else c1)), .unset, .unset, .unset, .unset, .unset, .unset] []) := by
    by_cases hc29 : sc = (0 : Int32)
    · have r30 : GoTo p.tables e below s₁ (own_F_own_law m j0 q1 q2 j3) T14 (mkF m 96 #[.val (.int j0), .val (.long q1), .second, .val (.long q2), .second, .val (.int j3), .val (.int pb), .val (.int sc), .val (.int pb2), .val (.int c0), .val (.int c1), .val (.int d0), .val (.int d1), .unset, .unset, .unset, .unset, .unset, .unset] []) := fun tt_ kk_ => r27 tt_ (by
          show Steps p.tables e below (T14.setTop (mkF m 85 #[.val (.int j0), .val (.long q1), .second, .val (.long q2), .second, .val (.int j3), .val (.int pb), .val (.int sc), .val (.int pb2), .val (.int c0), .val (.int c1), .val (.int d0), .val (.int d1), .unset, .unset, .unset, .unset, .unset, .unset] [(.int sc)])) _
          refine XS.ifYes X14.here hx rfl (pc0 := 85) (pc' := 96) rfl (hb hby at_85) rfl ((if0 _ _).trans (teq hc29).1) (by decide) (by decide) ?_
          show Steps p.tables e below (T14.setTop (mkF m 96 #[.val (.int j0), .val (.long q1), .second, .val (.long q2), .second, .val (.int j3), .val (.int pb), .val (.int sc), .val (.int pb2), .val (.int c0), .val (.int c1), .val (.int d0), .val (.int d1), .unset, .unset, .unset, .unset, .unset, .unset] [])) _
          exact kk_)
      exact ⟨T14, _, X14, N14, e14, by rw [show (if sc = (0 : Int32) then d0 else c0) = d0 from (if_pos hc29), show (if sc = (0 : Int32) then d1 else c1) = d1 from (if_pos hc29)]; exact r30⟩
    · have r31 : GoTo p.tables e below s₁ (own_F_own_law m j0 q1 q2 j3) T14 (mkF m 96 #[.val (.int j0), .val (.long q1), .second, .val (.long q2), .second, .val (.int j3), .val (.int pb), .val (.int sc), .val (.int pb2), .val (.int c0), .val (.int c1), .val (.int c0), .val (.int c1), .unset, .unset, .unset, .unset, .unset, .unset] []) := fun tt_ kk_ => r27 tt_ (by
          show Steps p.tables e below (T14.setTop (mkF m 85 #[.val (.int j0), .val (.long q1), .second, .val (.long q2), .second, .val (.int j3), .val (.int pb), .val (.int sc), .val (.int pb2), .val (.int c0), .val (.int c1), .val (.int d0), .val (.int d1), .unset, .unset, .unset, .unset, .unset, .unset] [(.int sc)])) _
          refine XS.ifNo X14.here hx rfl (hb hby at_85) rfl ((if0 _ _).trans (feq hc29).1) ?_
          show Steps p.tables e below (T14.setTop (mkF m 88 #[.val (.int j0), .val (.long q1), .second, .val (.long q2), .second, .val (.int j3), .val (.int pb), .val (.int sc), .val (.int pb2), .val (.int c0), .val (.int c1), .val (.int d0), .val (.int d1), .unset, .unset, .unset, .unset, .unset, .unset] [])) _
          refine XS.iload X14.here hx rfl (hb hby at_88) rfl ?_
          show Steps p.tables e below (T14.setTop (mkF m 90 #[.val (.int j0), .val (.long q1), .second, .val (.long q2), .second, .val (.int j3), .val (.int pb), .val (.int sc), .val (.int pb2), .val (.int c0), .val (.int c1), .val (.int d0), .val (.int d1), .unset, .unset, .unset, .unset, .unset, .unset] [(.int c0)])) _
          refine XS.istore X14.here hx rfl (hb hby at_90) rfl (l' := #[.val (.int j0), .val (.long q1), .second, .val (.long q2), .second, .val (.int j3), .val (.int pb), .val (.int sc), .val (.int pb2), .val (.int c0), .val (.int c1), .val (.int c0), .val (.int d1), .unset, .unset, .unset, .unset, .unset, .unset]) rfl ?_
          show Steps p.tables e below (T14.setTop (mkF m 92 #[.val (.int j0), .val (.long q1), .second, .val (.long q2), .second, .val (.int j3), .val (.int pb), .val (.int sc), .val (.int pb2), .val (.int c0), .val (.int c1), .val (.int c0), .val (.int d1), .unset, .unset, .unset, .unset, .unset, .unset] [])) _
          refine XS.iload X14.here hx rfl (hb hby at_92) rfl ?_
          show Steps p.tables e below (T14.setTop (mkF m 94 #[.val (.int j0), .val (.long q1), .second, .val (.long q2), .second, .val (.int j3), .val (.int pb), .val (.int sc), .val (.int pb2), .val (.int c0), .val (.int c1), .val (.int c0), .val (.int d1), .unset, .unset, .unset, .unset, .unset, .unset] [(.int c1)])) _
          refine XS.istore X14.here hx rfl (hb hby at_94) rfl (l' := #[.val (.int j0), .val (.long q1), .second, .val (.long q2), .second, .val (.int j3), .val (.int pb), .val (.int sc), .val (.int pb2), .val (.int c0), .val (.int c1), .val (.int c0), .val (.int c1), .unset, .unset, .unset, .unset, .unset, .unset]) rfl ?_
          show Steps p.tables e below (T14.setTop (mkF m 96 #[.val (.int j0), .val (.long q1), .second, .val (.long q2), .second, .val (.int j3), .val (.int pb), .val (.int sc), .val (.int pb2), .val (.int c0), .val (.int c1), .val (.int c0), .val (.int c1), .unset, .unset, .unset, .unset, .unset, .unset] [])) _
          exact kk_)
      exact ⟨T14, _, X14, N14, e14, by rw [show (if sc = (0 : Int32) then d0 else c0) = c0 from (if_neg hc29), show (if sc = (0 : Int32) then d1 else c1) = c1 from (if_neg hc29)]; exact r31⟩
  obtain ⟨e0_, h_e0_⟩ : ∃ z : Int32, z = (if sc = (0 : Int32) then d0 else c0) := ⟨_, rfl⟩
  have r32 : GoTo p.tables e below s₁ (own_F_own_law m j0 q1 q2 j3) T28 (mkF m 96 #[.val (.int j0), .val (.long q1), .second, .val (.long q2), .second, .val (.int j3), .val (.int pb), .val (.int sc), .val (.int pb2), .val (.int c0), .val (.int c1), .val (.int e0_), .val (.int (if sc = (0 : Int32) then d1 else c1)), .unset, .unset, .unset, .unset, .unset, .unset] []) := by rw [h_e0_]; exact r28
  obtain ⟨e1_, h_e1_⟩ : ∃ z : Int32, z = (if sc = (0 : Int32) then d1 else c1) := ⟨_, rfl⟩
  have r33 : GoTo p.tables e below s₁ (own_F_own_law m j0 q1 q2 j3) T28 (mkF m 96 #[.val (.int j0), .val (.long q1), .second, .val (.long q2), .second, .val (.int j3), .val (.int pb), .val (.int sc), .val (.int pb2), .val (.int c0), .val (.int c1), .val (.int e0_), .val (.int e1_), .unset, .unset, .unset, .unset, .unset, .unset] []) := by rw [h_e1_]; exact r32
  have hr_e0_ : (¬ e0_ < 0 ∧ ¬ (255 : Int32) < e0_) ∧ nar .char e0_ = e0_ := by rw [h_e0_]; split; exact hr_d0; exact hr_c0
  have hr_e1_ : (¬ e1_ < 0 ∧ ¬ (255 : Int32) < e1_) ∧ nar .char e1_ = e1_ := by rw [h_e1_]; split; exact hr_d1; exact hr_c1
  obtain ⟨T34, h34, X34, e34, E34, A34, D34, -, st34⟩ := newO X28 hx hZ hown (hw _ (List.mem_of_getElem? (i := 0) rfl)) (hw _ (List.mem_of_getElem? (i := 1) rfl)) (hw _ (List.mem_of_getElem? (i := 2) rfl)) e28 (g := (mkF m 96 #[.val (.int j0), .val (.long q1), .second, .val (.long q2), .second, .val (.int j3), .val (.int pb), .val (.int sc), .val (.int pb2), .val (.int c0), .val (.int c1), .val (.int e0_), .val (.int e1_), .unset, .unset, .unset, .unset, .unset, .unset] [])) rfl (hb hby at_96) (by decide) (by decide)
  obtain ⟨b34, gg34⟩ : ∃ z, z = h0.size := ⟨_, rfl⟩
  rw [← gg34] at A34 D34 st34
  have g35 : n0 ≤ b34 := Nat.le_trans (Nat.le_trans (own_le O0) K0.1) (Nat.le_of_eq gg34.symm)
  have b36 : h0.size ≤ b34 := Nat.le_trans K0.1 (Nat.le_of_eq gg34.symm)
  have K37 : Keep h0 h34 [] := K0.ext E34
  obtain ⟨T38, h38, k38, X38, e38, E38, A38, st38⟩ := newP X34 hx hZ (hw _ (List.mem_of_getElem? (i := 3) rfl)) e34 (g := (mkF m 101 #[.val (.int j0), .val (.long q1), .second, .val (.long q2), .second, .val (.int j3), .val (.int pb), .val (.int sc), .val (.int pb2), .val (.int c0), .val (.int c1), .val (.int e0_), .val (.int e1_), .unset, .unset, .unset, .unset, .unset, .unset] [(.int (2 : Int32)), (.ref b34), (.ref b34)])) rfl (hb hby at_101) rfl (by decide) (cap := 2) (by decide) (by decide) (by decide) (by decide)
  obtain ⟨b38, gg38⟩ : ∃ z, z = h34.size := ⟨_, rfl⟩
  rw [← gg38] at A38 st38
  have ne39 : b34 ≠ b38 := Nat.ne_of_lt (Nat.lt_of_lt_of_le A34.lt (Nat.le_of_eq gg38.symm))
  have g40 : n0 ≤ b38 := Nat.le_trans (Nat.le_trans (own_le O0) K37.1) (Nat.le_of_eq gg38.symm)
  have b41 : h0.size ≤ b38 := Nat.le_trans K37.1 (Nat.le_of_eq gg38.symm)
  have K42 : Keep h0 h38 [] := K37.ext E38
  have V38 : Arv Z h38 b38 k38 .char (2 : Int32) [(.int (0 : Int32)), (.int (0 : Int32))] (.int (0 : Int32)) := (Arv.new A38 (by decide)).pad (pad_rep [] (.int (0 : Int32)) 2)
  obtain ⟨cl43, Ar43, q43, S43, NN43, H43, G43⟩ := id V38
  have hin43 : ¬ ((0 : Int32) < 0 ∨ cl43.slots.size ≤ ((0 : Int32)).toNatClampNeg) := inb_of S43 ⟨by decide, by decide⟩
  obtain ⟨T44, h44, X44, e44, W44, st44⟩ := stC X38 hx hZ e38 Ar43 (j := (0 : Int32)) hin43 (g := (mkF m 107 #[.val (.int j0), .val (.long q1), .second, .val (.long q2), .second, .val (.int j3), .val (.int pb), .val (.int sc), .val (.int pb2), .val (.int c0), .val (.int c1), .val (.int e0_), .val (.int e1_), .unset, .unset, .unset, .unset, .unset, .unset] [(.int c0), (.int (0 : Int32)), (.ref b38), (.ref b38), (.ref b34), (.ref b34)])) rfl rfl (hb hby at_107)
  have K45 : Keep h0 h44 [] := K42.wr W44 (Or.inr b41)
  have V44 : Arv Z h44 b38 k38 .char (2 : Int32) [(.int (nar .char c0)), (.int (0 : Int32))] (.int (0 : Int32)) := Arv.set Ar43 q43 S43 NN43 H43 G43 (fits_nar_char _) W44 0 rfl (Nat.le_of_ble_eq_true rfl)
  have Vs44 : Arv Z h44 b38 k38 .char (2 : Int32) [(.int c0), (.int (0 : Int32))] (.int (0 : Int32)) := by rw [show (nar .char c0) = c0 from hr_c0.2] at V44; exact V44
  have N44 := Fr.snoc X44 N28 g40
  obtain ⟨cl46, Ar46, q46, S46, NN46, H46, G46⟩ := id Vs44
  have hin46 : ¬ ((1 : Int32) < 0 ∨ cl46.slots.size ≤ ((1 : Int32)).toNatClampNeg) := inb_of S46 ⟨by decide, by decide⟩
  obtain ⟨T47, h47, X47, e47, W47, st47⟩ := stC X44 hx hZ e44 Ar46 (j := (1 : Int32)) hin46 (g := (mkF m 112 #[.val (.int j0), .val (.long q1), .second, .val (.long q2), .second, .val (.int j3), .val (.int pb), .val (.int sc), .val (.int pb2), .val (.int c0), .val (.int c1), .val (.int e0_), .val (.int e1_), .unset, .unset, .unset, .unset, .unset, .unset] [(.int c1), (.int (1 : Int32)), (.ref b38), (.ref b38), (.ref b34), (.ref b34)])) rfl rfl (hb hby at_112)
  have K48 : Keep h0 h47 [] := K45.wr W47 (Or.inr b41)
  have V47 : Arv Z h47 b38 k38 .char (2 : Int32) [(.int c0), (.int (nar .char c1))] (.int (0 : Int32)) := Arv.set Ar46 q46 S46 NN46 H46 G46 (fits_nar_char _) W47 1 rfl (Nat.le_of_ble_eq_true rfl)
  have Vs47 : Arv Z h47 b38 k38 .char (2 : Int32) [(.int c0), (.int c1)] (.int (0 : Int32)) := by rw [show (nar .char c1) = c1 from hr_c1.2] at V47; exact V47
  have N47 := Fr.snoc X47 N44 g40
  have hws : ∀ d ∈ StrChars.Road.words, d.before a0 Z = true := fun d hd => hw d (own_in_words d hd)
  have f49 : Exa Z h47 b34 "java/lang/String" := (((A34.ext E38).wr W44).wr W47)
  have f50 : Fld Z h47 b34 "java/lang/String" "value" "[B" .null := ((((D34 (Or.inr (hw _ (List.mem_of_getElem? (i := 29) rfl))) (ty := (.array .byte)) (by decide)).ext E38).other W44 (Or.inl ne39)).other W47 (Or.inl ne39))
  have f51 : Fld Z h47 b34 "java/lang/String" "coder" "B" (.int (0 : Int32)) := ((((D34 (Or.inr (hw _ (List.mem_of_getElem? (i := 27) rfl))) (ty := .byte) (by decide)).ext E38).other W44 (Or.inl ne39)).other W47 (Or.inl ne39))
  have hp52 : ∀ c ∈ ([c0, c1] : List Int32), ¬ c < 0 ∧ ¬ (255 : Int32) < c := own_allC hr_c0.1 (own_allC hr_c1.1 (own_all0))
  obtain ⟨_, _, ⟨T53, L53, k53, n53⟩, -, X53, ⟨Lc53, hQ53, l53, y53, z53⟩, st53⟩ := X47.specialBack hx (y := (⟨"java/lang/String", "<init>", "([C)V"⟩ : MethodName)) rfl hown (mvT hZ (hw _ (List.mem_of_getElem? (i := 4) rfl))) (mvT hZ (hw _ (List.mem_of_getElem? (i := 5) rfl))) (mvT hZ (hw _ (List.mem_of_getElem? (i := 6) rfl))) (by decide) (StrChars.Road.backV (W := 1) hZ hws (kI := 4) (hw _ (List.mem_of_getElem? (i := 1) rfl)) (cs := ([c0, c1] : List Int32)) (bs := ([c0, c1] : List Int32).map (fun c => c.toInt8.toInt32)) (n := 2) g35 (Nat.le_trans (own_le O0) K48.1) f49 f50 f51 Vs47 (hp0.ext (O0.keep K48 all0).2) hG1 rfl rfl (by decide) (by decide) hp52 rfl (by decide) (by decide)) (g := (mkF m 113 #[.val (.int j0), .val (.long q1), .second, .val (.long q2), .second, .val (.int j3), .val (.int pb), .val (.int sc), .val (.int pb2), .val (.int c0), .val (.int c1), .val (.int e0_), .val (.int e1_), .unset, .unset, .unset, .unset, .unset, .unset] [(.ref b38), (.ref b34), (.ref b34)])) rfl (by rw [hml]; rfl) (Steps.refl _) (a := b34) (argsL := [(.ref b38)]) (rest := [(.ref b34)]) (lenOf own_pd3 rfl) rfl (by show 2 * 0 + _ ≤ _; exact Nat.le_of_eq rfl) (hb hby at_113) (fun _ _ => ⟨rfl, e47, (by decide : 2 + 1 ≤ _), (by decide : 6 + 2 ≤ _)⟩)
  dsimp only [Pt.U, Pt.locs, Pt.cells, Pt.slots] at X53 l53 y53 z53 st53 hQ53
  subst l53 y53 z53
  obtain ⟨rfl, Nq53, Kq53, Ea53, Fc53, t53, kb53, gt53, sz53, nt53, Fv53, Av53⟩ := hQ53
  have N53 := Fr.app N47 Nq53
  have ne54 : b34 ≠ t53 := Nat.ne_of_lt (Nat.lt_of_lt_of_le (Nat.lt_of_lt_of_le A34.lt (Nat.le_trans (Nat.le_trans E38.1 (Nat.le_of_eq (Wr.size W44).symm)) (Nat.le_of_eq (Wr.size W47).symm))) sz53)
  have ne55 : b38 ≠ t53 := Nat.ne_of_lt (Nat.lt_of_lt_of_le (Nat.lt_of_lt_of_le V38.lt (Nat.le_trans (Nat.le_of_eq (Wr.size W44).symm) (Nat.le_of_eq (Wr.size W47).symm))) sz53)
  have g56 : n0 ≤ t53 := Nat.le_trans (Nat.le_trans (own_le O0) K48.1) sz53
  have b57 : h0.size ≤ t53 := Nat.le_trans K48.1 sz53
  have K58 : Keep h0 T53.heap [] := K48.trans Kq53 (allS (Or.inr b36) all0)
  have Sr53 : own_Str Z T53.heap b34 t53 kb53 ([c0, c1] : List Int32) := ⟨Ea53, Fv53, Fc53, Av53, hp52, (by show 2 ≤ 4000; decide)⟩
  obtain ⟨T59, h59, X59, e59, E59, A59, D59, -, st59⟩ := newO X53 hx hZ hown (hw _ (List.mem_of_getElem? (i := 0) rfl)) (hw _ (List.mem_of_getElem? (i := 1) rfl)) (hw _ (List.mem_of_getElem? (i := 2) rfl)) rfl (g := (mkF m 118 #[.val (.int j0), .val (.long q1), .second, .val (.long q2), .second, .val (.int j3), .val (.int pb), .val (.int sc), .val (.int pb2), .val (.int c0), .val (.int c1), .val (.int e0_), .val (.int e1_), .val (.ref b34), .unset, .unset, .unset, .unset, .unset] [])) rfl (hb hby at_118) (by decide) (by decide)
  obtain ⟨b59, gg59⟩ : ∃ z, z = T53.heap.size := ⟨_, rfl⟩
  rw [← gg59] at A59 D59 st59
  have ne60 : b34 ≠ b59 := Nat.ne_of_lt (Nat.lt_of_lt_of_le (Nat.lt_of_lt_of_le A34.lt (Nat.le_trans (Nat.le_trans (Nat.le_trans E38.1 (Nat.le_of_eq (Wr.size W44).symm)) (Nat.le_of_eq (Wr.size W47).symm)) Kq53.1)) (Nat.le_of_eq gg59.symm))
  have ne61 : b38 ≠ b59 := Nat.ne_of_lt (Nat.lt_of_lt_of_le (Nat.lt_of_lt_of_le V38.lt (Nat.le_trans (Nat.le_trans (Nat.le_of_eq (Wr.size W44).symm) (Nat.le_of_eq (Wr.size W47).symm)) Kq53.1)) (Nat.le_of_eq gg59.symm))
  have ne62 : t53 ≠ b59 := Nat.ne_of_lt (Nat.lt_of_lt_of_le Sr53.2.2.2.1.lt (Nat.le_of_eq gg59.symm))
  have g63 : n0 ≤ b59 := Nat.le_trans (Nat.le_trans (own_le O0) K58.1) (Nat.le_of_eq gg59.symm)
  have b64 : h0.size ≤ b59 := Nat.le_trans K58.1 (Nat.le_of_eq gg59.symm)
  have K65 : Keep h0 h59 [] := K58.ext E59
  obtain ⟨T66, h66, k66, X66, e66, E66, A66, st66⟩ := newP X59 hx hZ (hw _ (List.mem_of_getElem? (i := 3) rfl)) e59 (g := (mkF m 123 #[.val (.int j0), .val (.long q1), .second, .val (.long q2), .second, .val (.int j3), .val (.int pb), .val (.int sc), .val (.int pb2), .val (.int c0), .val (.int c1), .val (.int e0_), .val (.int e1_), .val (.ref b34), .unset, .unset, .unset, .unset, .unset] [(.int (2 : Int32)), (.ref b59), (.ref b59)])) rfl (hb hby at_123) rfl (by decide) (cap := 2) (by decide) (by decide) (by decide) (by decide)
  obtain ⟨b66, gg66⟩ : ∃ z, z = h59.size := ⟨_, rfl⟩
  rw [← gg66] at A66 st66
  have ne67 : b34 ≠ b66 := Nat.ne_of_lt (Nat.lt_of_lt_of_le (Nat.lt_of_lt_of_le A34.lt (Nat.le_trans (Nat.le_trans (Nat.le_trans (Nat.le_trans E38.1 (Nat.le_of_eq (Wr.size W44).symm)) (Nat.le_of_eq (Wr.size W47).symm)) Kq53.1) E59.1)) (Nat.le_of_eq gg66.symm))
  have ne68 : b38 ≠ b66 := Nat.ne_of_lt (Nat.lt_of_lt_of_le (Nat.lt_of_lt_of_le V38.lt (Nat.le_trans (Nat.le_trans (Nat.le_trans (Nat.le_of_eq (Wr.size W44).symm) (Nat.le_of_eq (Wr.size W47).symm)) Kq53.1) E59.1)) (Nat.le_of_eq gg66.symm))
  have ne69 : t53 ≠ b66 := Nat.ne_of_lt (Nat.lt_of_lt_of_le (Nat.lt_of_lt_of_le Sr53.2.2.2.1.lt E59.1) (Nat.le_of_eq gg66.symm))
  have ne70 : b59 ≠ b66 := Nat.ne_of_lt (Nat.lt_of_lt_of_le A59.lt (Nat.le_of_eq gg66.symm))
  have g71 : n0 ≤ b66 := Nat.le_trans (Nat.le_trans (own_le O0) K65.1) (Nat.le_of_eq gg66.symm)
  have b72 : h0.size ≤ b66 := Nat.le_trans K65.1 (Nat.le_of_eq gg66.symm)
  have K73 : Keep h0 h66 [] := K65.ext E66
  have V66 : Arv Z h66 b66 k66 .char (2 : Int32) [(.int (0 : Int32)), (.int (0 : Int32))] (.int (0 : Int32)) := (Arv.new A66 (by decide)).pad (pad_rep [] (.int (0 : Int32)) 2)
  obtain ⟨cl74, Ar74, q74, S74, NN74, H74, G74⟩ := id V66
  have hin74 : ¬ ((0 : Int32) < 0 ∨ cl74.slots.size ≤ ((0 : Int32)).toNatClampNeg) := inb_of S74 ⟨by decide, by decide⟩
  obtain ⟨T75, h75, X75, e75, W75, st75⟩ := stC X66 hx hZ e66 Ar74 (j := (0 : Int32)) hin74 (g := (mkF m 129 #[.val (.int j0), .val (.long q1), .second, .val (.long q2), .second, .val (.int j3), .val (.int pb), .val (.int sc), .val (.int pb2), .val (.int c0), .val (.int c1), .val (.int e0_), .val (.int e1_), .val (.ref b34), .unset, .unset, .unset, .unset, .unset] [(.int e0_), (.int (0 : Int32)), (.ref b66), (.ref b66), (.ref b59), (.ref b59)])) rfl rfl (hb hby at_129)
  have K76 : Keep h0 h75 [] := K73.wr W75 (Or.inr b72)
  have V75 : Arv Z h75 b66 k66 .char (2 : Int32) [(.int (nar .char e0_)), (.int (0 : Int32))] (.int (0 : Int32)) := Arv.set Ar74 q74 S74 NN74 H74 G74 (fits_nar_char _) W75 0 rfl (Nat.le_of_ble_eq_true rfl)
  have Vs75 : Arv Z h75 b66 k66 .char (2 : Int32) [(.int e0_), (.int (0 : Int32))] (.int (0 : Int32)) := by rw [show (nar .char e0_) = e0_ from hr_e0_.2] at V75; exact V75
  have N75 := Fr.snoc X75 N53 g71
  obtain ⟨cl77, Ar77, q77, S77, NN77, H77, G77⟩ := id Vs75
  have hin77 : ¬ ((1 : Int32) < 0 ∨ cl77.slots.size ≤ ((1 : Int32)).toNatClampNeg) := inb_of S77 ⟨by decide, by decide⟩
  obtain ⟨T78, h78, X78, e78, W78, st78⟩ := stC X75 hx hZ e75 Ar77 (j := (1 : Int32)) hin77 (g := (mkF m 134 #[.val (.int j0), .val (.long q1), .second, .val (.long q2), .second, .val (.int j3), .val (.int pb), .val (.int sc), .val (.int pb2), .val (.int c0), .val (.int c1), .val (.int e0_), .val (.int e1_), .val (.ref b34), .unset, .unset, .unset, .unset, .unset] [(.int e1_), (.int (1 : Int32)), (.ref b66), (.ref b66), (.ref b59), (.ref b59)])) rfl rfl (hb hby at_134)
  have K79 : Keep h0 h78 [] := K76.wr W78 (Or.inr b72)
  have V78 : Arv Z h78 b66 k66 .char (2 : Int32) [(.int e0_), (.int (nar .char e1_))] (.int (0 : Int32)) := Arv.set Ar77 q77 S77 NN77 H77 G77 (fits_nar_char _) W78 1 rfl (Nat.le_of_ble_eq_true rfl)
  have Vs78 : Arv Z h78 b66 k66 .char (2 : Int32) [(.int e0_), (.int e1_)] (.int (0 : Int32)) := by rw [show (nar .char e1_) = e1_ from hr_e1_.2] at V78; exact V78
  have N78 := Fr.snoc X78 N75 g71
  have f80 : Exa Z h78 b59 "java/lang/String" := (((A59.ext E66).wr W75).wr W78)
  have f81 : Fld Z h78 b59 "java/lang/String" "value" "[B" .null := ((((D59 (Or.inr (hw _ (List.mem_of_getElem? (i := 29) rfl))) (ty := (.array .byte)) (by decide)).ext E66).other W75 (Or.inl ne70)).other W78 (Or.inl ne70))
  have f82 : Fld Z h78 b59 "java/lang/String" "coder" "B" (.int (0 : Int32)) := ((((D59 (Or.inr (hw _ (List.mem_of_getElem? (i := 27) rfl))) (ty := .byte) (by decide)).ext E66).other W75 (Or.inl ne70)).other W78 (Or.inl ne70))
  have hp83 : ∀ c ∈ ([e0_, e1_] : List Int32), ¬ c < 0 ∧ ¬ (255 : Int32) < c := own_allC hr_e0_.1 (own_allC hr_e1_.1 (own_all0))
  obtain ⟨_, _, ⟨T84, L84, k84, n84⟩, -, X84, ⟨Lc84, hQ84, l84, y84, z84⟩, st84⟩ := X78.specialBack hx (y := (⟨"java/lang/String", "<init>", "([C)V"⟩ : MethodName)) rfl hown (mvT hZ (hw _ (List.mem_of_getElem? (i := 4) rfl))) (mvT hZ (hw _ (List.mem_of_getElem? (i := 5) rfl))) (mvT hZ (hw _ (List.mem_of_getElem? (i := 6) rfl))) (by decide) (StrChars.Road.backV (W := 1) hZ hws (kI := 4) (hw _ (List.mem_of_getElem? (i := 1) rfl)) (cs := ([e0_, e1_] : List Int32)) (bs := ([e0_, e1_] : List Int32).map (fun c => c.toInt8.toInt32)) (n := 2) g63 (Nat.le_trans (own_le O0) K79.1) f80 f81 f82 Vs78 (hp0.ext (O0.keep K79 all0).2) hG1 rfl rfl (by decide) (by decide) hp83 rfl (by decide) (by decide)) (g := (mkF m 135 #[.val (.int j0), .val (.long q1), .second, .val (.long q2), .second, .val (.int j3), .val (.int pb), .val (.int sc), .val (.int pb2), .val (.int c0), .val (.int c1), .val (.int e0_), .val (.int e1_), .val (.ref b34), .unset, .unset, .unset, .unset, .unset] [(.ref b66), (.ref b59), (.ref b59)])) rfl (by rw [hml]; rfl) (Steps.refl _) (a := b59) (argsL := [(.ref b66)]) (rest := [(.ref b59)]) (lenOf own_pd3 rfl) rfl (by show 2 * 0 + _ ≤ _; exact Nat.le_of_eq rfl) (hb hby at_135) (fun _ _ => ⟨rfl, e78, (by decide : 5 + 1 ≤ _), (by decide : 14 + 2 ≤ _)⟩)
  dsimp only [Pt.U, Pt.locs, Pt.cells, Pt.slots] at X84 l84 y84 z84 st84 hQ84
  subst l84 y84 z84
  obtain ⟨rfl, Nq84, Kq84, Ea84, Fc84, t84, kb84, gt84, sz84, nt84, Fv84, Av84⟩ := hQ84
  have N84 := Fr.app N78 Nq84
  have ne85 : b34 ≠ t84 := Nat.ne_of_lt (Nat.lt_of_lt_of_le (Nat.lt_of_lt_of_le A34.lt (Nat.le_trans (Nat.le_trans (Nat.le_trans (Nat.le_trans (Nat.le_trans (Nat.le_trans (Nat.le_trans E38.1 (Nat.le_of_eq (Wr.size W44).symm)) (Nat.le_of_eq (Wr.size W47).symm)) Kq53.1) E59.1) E66.1) (Nat.le_of_eq (Wr.size W75).symm)) (Nat.le_of_eq (Wr.size W78).symm))) sz84)
  have ne86 : b38 ≠ t84 := Nat.ne_of_lt (Nat.lt_of_lt_of_le (Nat.lt_of_lt_of_le V38.lt (Nat.le_trans (Nat.le_trans (Nat.le_trans (Nat.le_trans (Nat.le_trans (Nat.le_trans (Nat.le_of_eq (Wr.size W44).symm) (Nat.le_of_eq (Wr.size W47).symm)) Kq53.1) E59.1) E66.1) (Nat.le_of_eq (Wr.size W75).symm)) (Nat.le_of_eq (Wr.size W78).symm))) sz84)
  have ne87 : t53 ≠ t84 := Nat.ne_of_lt (Nat.lt_of_lt_of_le (Nat.lt_of_lt_of_le Sr53.2.2.2.1.lt (Nat.le_trans (Nat.le_trans (Nat.le_trans E59.1 E66.1) (Nat.le_of_eq (Wr.size W75).symm)) (Nat.le_of_eq (Wr.size W78).symm))) sz84)
  have ne88 : b59 ≠ t84 := Nat.ne_of_lt (Nat.lt_of_lt_of_le (Nat.lt_of_lt_of_le A59.lt (Nat.le_trans (Nat.le_trans E66.1 (Nat.le_of_eq (Wr.size W75).symm)) (Nat.le_of_eq (Wr.size W78).symm))) sz84)
  have ne89 : b66 ≠ t84 := Nat.ne_of_lt (Nat.lt_of_lt_of_le (Nat.lt_of_lt_of_le V66.lt (Nat.le_trans (Nat.le_of_eq (Wr.size W75).symm) (Nat.le_of_eq (Wr.size W78).symm))) sz84)
  have g90 : n0 ≤ t84 := Nat.le_trans (Nat.le_trans (own_le O0) K79.1) sz84
  have b91 : h0.size ≤ t84 := Nat.le_trans K79.1 sz84
  have K92 : Keep h0 T84.heap [] := K79.trans Kq84 (allS (Or.inr b64) all0)
  have Sr84 : own_Str Z T84.heap b59 t84 kb84 ([e0_, e1_] : List Int32) := ⟨Ea84, Fv84, Fc84, Av84, hp83, (by show 2 ≤ 4000; decide)⟩
  obtain ⟨_, _, ⟨T93, L93, k93, n93⟩, -, X93, ⟨Lc93, hQ93, l93, y93, z93⟩, st93⟩ := Jvm.LawKit.callS X84 hx (y := (⟨"com/example/holdfast/holdfast/ServerRun", "of", "(Ljava/lang/String;JZ)Lcom/example/holdfast/holdfast/ServerRun;"⟩ : MethodName)) hown (mvT hZ (hw _ (List.mem_of_getElem? (i := 30) rfl))) (mvT hZ (hw _ (List.mem_of_getElem? (i := 31) rfl))) (mvT hZ (hw _ (List.mem_of_getElem? (i := 32) rfl))) (mvT hZ (hw _ (List.mem_of_getElem? (i := 33) rfl))) (by decide) (backOf (W := 0) (own_of l Z a0 hw [] (b34) (q1) (pb) T84.heap n0 (O0.keep K92 all0)) hZ (hw _ (List.mem_of_getElem? (i := 33) rfl)) (hw _ (List.mem_of_getElem? (i := 32) rfl)) (by decide) (by decide)) (g := (mkF m 145 #[.val (.int j0), .val (.long q1), .second, .val (.long q2), .second, .val (.int j3), .val (.int pb), .val (.int sc), .val (.int pb2), .val (.int c0), .val (.int c1), .val (.int e0_), .val (.int e1_), .val (.ref b34), .val (.ref b59), .unset, .unset, .unset, .unset] [(.int pb), (.long q1), (.ref b34)])) rfl (by rw [hml]; rfl) (argsL := [(.ref b34), (.long q1), (.int pb)]) (rest := []) (lenOf own_pd4 rfl) rfl (by show 2 * 0 + _ ≤ _; exact Nat.le_of_eq rfl) (hb hby at_145) (fun _ _ => ⟨rfl, rfl, (by decide : 6 + 1 ≤ _), (by decide : 16 + 5 ≤ _)⟩)
  dsimp only [Pt.U, Pt.locs, Pt.cells, Pt.slots] at X93 l93 y93 z93 st93 hQ93
  subst l93 y93 z93
  obtain ⟨b_93, rfl, Nq93, Kq93, po93_0, po93_1, po93_2, po93_3, po93_4, po93_5, po93_6, po93_7⟩ := hQ93
  have N93 := Fr.app N84 Nq93
  have ne94 : b34 ≠ b_93 := Nat.ne_of_lt (Nat.lt_of_lt_of_le (Nat.lt_of_lt_of_le A34.lt (Nat.le_trans (Nat.le_trans (Nat.le_trans (Nat.le_trans (Nat.le_trans (Nat.le_trans (Nat.le_trans (Nat.le_trans E38.1 (Nat.le_of_eq (Wr.size W44).symm)) (Nat.le_of_eq (Wr.size W47).symm)) Kq53.1) E59.1) E66.1) (Nat.le_of_eq (Wr.size W75).symm)) (Nat.le_of_eq (Wr.size W78).symm)) Kq84.1)) po93_0)
  have ne95 : b38 ≠ b_93 := Nat.ne_of_lt (Nat.lt_of_lt_of_le (Nat.lt_of_lt_of_le V38.lt (Nat.le_trans (Nat.le_trans (Nat.le_trans (Nat.le_trans (Nat.le_trans (Nat.le_trans (Nat.le_trans (Nat.le_of_eq (Wr.size W44).symm) (Nat.le_of_eq (Wr.size W47).symm)) Kq53.1) E59.1) E66.1) (Nat.le_of_eq (Wr.size W75).symm)) (Nat.le_of_eq (Wr.size W78).symm)) Kq84.1)) po93_0)
  have ne96 : t53 ≠ b_93 := Nat.ne_of_lt (Nat.lt_of_lt_of_le (Nat.lt_of_lt_of_le Sr53.2.2.2.1.lt (Nat.le_trans (Nat.le_trans (Nat.le_trans (Nat.le_trans E59.1 E66.1) (Nat.le_of_eq (Wr.size W75).symm)) (Nat.le_of_eq (Wr.size W78).symm)) Kq84.1)) po93_0)
  have ne97 : b59 ≠ b_93 := Nat.ne_of_lt (Nat.lt_of_lt_of_le (Nat.lt_of_lt_of_le A59.lt (Nat.le_trans (Nat.le_trans (Nat.le_trans E66.1 (Nat.le_of_eq (Wr.size W75).symm)) (Nat.le_of_eq (Wr.size W78).symm)) Kq84.1)) po93_0)
  have ne98 : b66 ≠ b_93 := Nat.ne_of_lt (Nat.lt_of_lt_of_le (Nat.lt_of_lt_of_le V66.lt (Nat.le_trans (Nat.le_trans (Nat.le_of_eq (Wr.size W75).symm) (Nat.le_of_eq (Wr.size W78).symm)) Kq84.1)) po93_0)
  have ne99 : t84 ≠ b_93 := Nat.ne_of_lt (Nat.lt_of_lt_of_le Sr84.2.2.2.1.lt po93_0)
  have g100 : n0 ≤ b_93 := Nat.le_trans (Nat.le_trans (own_le O0) K92.1) po93_0
  have b101 : h0.size ≤ b_93 := Nat.le_trans K92.1 po93_0
  have K102 : Keep h0 T93.heap [] := K92.trans Kq93 all0
  have f103 : Fld Z T93.heap b_93 "com/example/holdfast/holdfast/ServerRun" "persistsEveryWrite" "Z" (.int pb) := by rw [show (nar .boolean pb) = pb from hn_pb] at po93_5; exact po93_5
  obtain ⟨_, _, ⟨T104, L104, k104, n104⟩, -, X104, ⟨Lc104, hQ104, l104, y104, z104⟩, st104⟩ := Jvm.LawKit.callS X93 hx (y := (⟨"com/example/holdfast/holdfast/ServerRun", "of", "(Ljava/lang/String;JZ)Lcom/example/holdfast/holdfast/ServerRun;"⟩ : MethodName)) hown (mvT hZ (hw _ (List.mem_of_getElem? (i := 30) rfl))) (mvT hZ (hw _ (List.mem_of_getElem? (i := 31) rfl))) (mvT hZ (hw _ (List.mem_of_getElem? (i := 32) rfl))) (mvT hZ (hw _ (List.mem_of_getElem? (i := 33) rfl))) (by decide) (backOf (W := 0) (own_of l Z a0 hw [] (b59) (q2) (pb2) T93.heap n0 (O0.keep K102 all0)) hZ (hw _ (List.mem_of_getElem? (i := 33) rfl)) (hw _ (List.mem_of_getElem? (i := 32) rfl)) (by decide) (by decide)) (g := (mkF m 155 #[.val (.int j0), .val (.long q1), .second, .val (.long q2), .second, .val (.int j3), .val (.int pb), .val (.int sc), .val (.int pb2), .val (.int c0), .val (.int c1), .val (.int e0_), .val (.int e1_), .val (.ref b34), .val (.ref b59), .val (.ref b_93), .unset, .unset, .unset] [(.int pb2), (.long q2), (.ref b59)])) rfl (by rw [hml]; rfl) (argsL := [(.ref b59), (.long q2), (.int pb2)]) (rest := []) (lenOf own_pd4 rfl) rfl (by show 2 * 0 + _ ≤ _; exact Nat.le_of_eq rfl) (hb hby at_155) (fun _ _ => ⟨rfl, rfl, (by decide : 7 + 1 ≤ _), (by decide : 21 + 5 ≤ _)⟩)
  dsimp only [Pt.U, Pt.locs, Pt.cells, Pt.slots] at X104 l104 y104 z104 st104 hQ104
  subst l104 y104 z104
  obtain ⟨b_104, rfl, Nq104, Kq104, po104_0, po104_1, po104_2, po104_3, po104_4, po104_5, po104_6, po104_7⟩ := hQ104
  have N104 := Fr.app N93 Nq104
  have ne105 : b34 ≠ b_104 := Nat.ne_of_lt (Nat.lt_of_lt_of_le (Nat.lt_of_lt_of_le A34.lt (Nat.le_trans (Nat.le_trans (Nat.le_trans (Nat.le_trans (Nat.le_trans (Nat.le_trans (Nat.le_trans (Nat.le_trans (Nat.le_trans E38.1 (Nat.le_of_eq (Wr.size W44).symm)) (Nat.le_of_eq (Wr.size W47).symm)) Kq53.1) E59.1) E66.1) (Nat.le_of_eq (Wr.size W75).symm)) (Nat.le_of_eq (Wr.size W78).symm)) Kq84.1) Kq93.1)) po104_0)
  have ne106 : b38 ≠ b_104 := Nat.ne_of_lt (Nat.lt_of_lt_of_le (Nat.lt_of_lt_of_le V38.lt (Nat.le_trans (Nat.le_trans (Nat.le_trans (Nat.le_trans (Nat.le_trans (Nat.le_trans (Nat.le_trans (Nat.le_trans (Nat.le_of_eq (Wr.size W44).symm) (Nat.le_of_eq (Wr.size W47).symm)) Kq53.1) E59.1) E66.1) (Nat.le_of_eq (Wr.size W75).symm)) (Nat.le_of_eq (Wr.size W78).symm)) Kq84.1) Kq93.1)) po104_0)
  have ne107 : t53 ≠ b_104 := Nat.ne_of_lt (Nat.lt_of_lt_of_le (Nat.lt_of_lt_of_le Sr53.2.2.2.1.lt (Nat.le_trans (Nat.le_trans (Nat.le_trans (Nat.le_trans (Nat.le_trans E59.1 E66.1) (Nat.le_of_eq (Wr.size W75).symm)) (Nat.le_of_eq (Wr.size W78).symm)) Kq84.1) Kq93.1)) po104_0)
  have ne108 : b59 ≠ b_104 := Nat.ne_of_lt (Nat.lt_of_lt_of_le (Nat.lt_of_lt_of_le A59.lt (Nat.le_trans (Nat.le_trans (Nat.le_trans (Nat.le_trans E66.1 (Nat.le_of_eq (Wr.size W75).symm)) (Nat.le_of_eq (Wr.size W78).symm)) Kq84.1) Kq93.1)) po104_0)
  have ne109 : b66 ≠ b_104 := Nat.ne_of_lt (Nat.lt_of_lt_of_le (Nat.lt_of_lt_of_le V66.lt (Nat.le_trans (Nat.le_trans (Nat.le_trans (Nat.le_of_eq (Wr.size W75).symm) (Nat.le_of_eq (Wr.size W78).symm)) Kq84.1) Kq93.1)) po104_0)
  have ne110 : t84 ≠ b_104 := Nat.ne_of_lt (Nat.lt_of_lt_of_le (Nat.lt_of_lt_of_le Sr84.2.2.2.1.lt Kq93.1) po104_0)
  have ne111 : b_93 ≠ b_104 := Nat.ne_of_lt (Nat.lt_of_lt_of_le po93_2.lt po104_0)
  have g112 : n0 ≤ b_104 := Nat.le_trans (Nat.le_trans (own_le O0) K102.1) po104_0
  have b113 : h0.size ≤ b_104 := Nat.le_trans K102.1 po104_0
  have K114 : Keep h0 T104.heap [] := K102.trans Kq104 all0
  have f115 : Fld Z T104.heap b_104 "com/example/holdfast/holdfast/ServerRun" "persistsEveryWrite" "Z" (.int pb2) := by rw [show (nar .boolean pb2) = pb2 from hn_pb2] at po104_5; exact po104_5
  have f116 : Fld Z T104.heap b_93 "com/example/holdfast/holdfast/ServerRun" "unknownBecause" "Ljava/lang/String;" .null := (po93_6.keep Kq104 nin0)
  have f118 : Exa Z T104.heap b_93 "com/example/holdfast/holdfast/ServerRun" := (po93_2.keep Kq104)
  obtain ⟨cq117, kq117, qa117, qb117, qc117⟩ := isOf hZ rfl f118
  obtain ⟨_, _, ⟨T117, L117, k117, n117⟩, -, X117, ⟨Lc117, hQ117, l117, y117, z117⟩, st117⟩ := X104.virtualBack hx (y := (⟨"com/example/holdfast/holdfast/ServerRun", "isKnown", "()Z"⟩ : MethodName)) (z := (⟨"com/example/holdfast/holdfast/ServerRun", "isKnown", "()Z"⟩ : MethodName)) hown (mvT hZ (hw _ (List.mem_of_getElem? (i := 50) rfl))) (mvT hZ (hw _ (List.mem_of_getElem? (i := 51) rfl))) (notFace_of_selects (args := #[]) (mvT hZ (hw _ (List.mem_of_getElem? (i := 53) rfl)))) (mvT hZ (hw _ (List.mem_of_getElem? (i := 53) rfl))) (mvT hZ (hw _ (List.mem_of_getElem? (i := 52) rfl))) (by decide) (backOf (W := 0) (own_known1 l Z a0 hw [] (b_93) T104.heap n0 (O0.keep K114 all0) (f116)) hZ (hw _ (List.mem_of_getElem? (i := 54) rfl)) (hw _ (List.mem_of_getElem? (i := 32) rfl)) (by decide) (by decide)) qa117 qc117 (g := (mkF m 162 #[.val (.int j0), .val (.long q1), .second, .val (.long q2), .second, .val (.int j3), .val (.int pb), .val (.int sc), .val (.int pb2), .val (.int c0), .val (.int c1), .val (.int e0_), .val (.int e1_), .val (.ref b34), .val (.ref b59), .val (.ref b_93), .val (.ref b_104), .unset, .unset] [(.ref b_93)])) rfl (by rw [hml]; rfl) (Steps.refl _) (argsL := []) (rest := []) (lenOf own_pd1 rfl) rfl (by show 2 * 0 + _ ≤ _; exact Nat.le_of_eq rfl) (hb hby at_162) (fun _ _ => ⟨rfl, rfl, (by decide : 8 + 0 ≤ _), (by decide : 26 + 0 ≤ _)⟩)
  dsimp only [Pt.U, Pt.locs, Pt.cells, Pt.slots] at X117 l117 y117 z117 st117 hQ117
  subst l117 y117 z117
  obtain ⟨rfl, Nq117, hh117⟩ := hQ117
  have N117 := Fr.app N104 Nq117
  obtain ⟨cq119, kq119, qa119, qb119, qc119⟩ := isOf hZ hh117 f118
  obtain ⟨_, _, ⟨T119, L119, k119, n119⟩, -, X119, ⟨Lc119, hQ119, l119, y119, z119⟩, st119⟩ := X117.virtualBack hx (y := (⟨"com/example/holdfast/holdfast/ServerRun", "unknownBecause", "()Ljava/lang/String;"⟩ : MethodName)) (z := (⟨"com/example/holdfast/holdfast/ServerRun", "unknownBecause", "()Ljava/lang/String;"⟩ : MethodName)) hown (mvT hZ (hw _ (List.mem_of_getElem? (i := 55) rfl))) (mvT hZ (hw _ (List.mem_of_getElem? (i := 56) rfl))) (notFace_of_selects (args := #[]) (mvT hZ (hw _ (List.mem_of_getElem? (i := 58) rfl)))) (mvT hZ (hw _ (List.mem_of_getElem? (i := 58) rfl))) (mvT hZ (hw _ (List.mem_of_getElem? (i := 57) rfl))) (by decide) (backOf (W := 0) (own_gunknownBecause l Z a0 hw [] (b_93) (.null) T104.heap n0 (O0.keep K114 all0) (rfl) (f116)) hZ (hw _ (List.mem_of_getElem? (i := 59) rfl)) (hw _ (List.mem_of_getElem? (i := 32) rfl)) (by decide) (by decide)) qa119 qc119 (g := (mkF m 174 #[.val (.int j0), .val (.long q1), .second, .val (.long q2), .second, .val (.int j3), .val (.int pb), .val (.int sc), .val (.int pb2), .val (.int c0), .val (.int c1), .val (.int e0_), .val (.int e1_), .val (.ref b34), .val (.ref b59), .val (.ref b_93), .val (.ref b_104), .val (.int (1 : Int32)), .unset] [(.ref b_93)])) rfl (by rw [hml]; rfl) (Steps.refl _) (argsL := []) (rest := []) (lenOf own_pd5 rfl) rfl (by show 2 * 0 + _ ≤ _; exact Nat.le_of_eq rfl) (hb hby at_174) (fun _ _ => ⟨rfl, hh117, (by decide : 8 + 0 ≤ _), (by decide : 26 + 0 ≤ _)⟩)
  dsimp only [Pt.U, Pt.locs, Pt.cells, Pt.slots] at X119 l119 y119 z119 st119 hQ119
  subst l119 y119 z119
  obtain ⟨rfl, Nq119, hh119⟩ := hQ119
  have N119 := Fr.app N117 Nq119
  have f120 : Fld Z T104.heap b_93 "com/example/holdfast/holdfast/ServerRun" "id" "Ljava/lang/String;" (.ref b34) := (po93_3.keep Kq104 nin0)
  obtain ⟨cq121, kq121, qa121, qb121, qc121⟩ := isOf hZ hh119 f118
  obtain ⟨_, _, ⟨T121, L121, k121, n121⟩, -, X121, ⟨Lc121, hQ121, l121, y121, z121⟩, st121⟩ := X119.virtualBack hx (y := (⟨"com/example/holdfast/holdfast/ServerRun", "id", "()Ljava/lang/String;"⟩ : MethodName)) (z := (⟨"com/example/holdfast/holdfast/ServerRun", "id", "()Ljava/lang/String;"⟩ : MethodName)) hown (mvT hZ (hw _ (List.mem_of_getElem? (i := 60) rfl))) (mvT hZ (hw _ (List.mem_of_getElem? (i := 61) rfl))) (notFace_of_selects (args := #[]) (mvT hZ (hw _ (List.mem_of_getElem? (i := 63) rfl)))) (mvT hZ (hw _ (List.mem_of_getElem? (i := 63) rfl))) (mvT hZ (hw _ (List.mem_of_getElem? (i := 62) rfl))) (by decide) (backOf (W := 1) (own_gid l Z a0 hw [] (b_93) ((.ref b34)) T104.heap n0 (O0.keep K114 all0) (rfl) (f120)) hZ (hw _ (List.mem_of_getElem? (i := 64) rfl)) (hw _ (List.mem_of_getElem? (i := 32) rfl)) (by decide) (by decide)) qa121 qc121 (g := (mkF m 196 #[.val (.int j0), .val (.long q1), .second, .val (.long q2), .second, .val (.int j3), .val (.int pb), .val (.int sc), .val (.int pb2), .val (.int c0), .val (.int c1), .val (.int e0_), .val (.int e1_), .val (.ref b34), .val (.ref b59), .val (.ref b_93), .val (.ref b_104), .val (.int (1 : Int32)), .unset] [(.ref b_93), (.ref b34)])) rfl (by rw [hml]; rfl) (Steps.refl _) (argsL := []) (rest := [(.ref b34)]) (lenOf own_pd5 rfl) rfl (by show 2 * 0 + _ ≤ _; exact Nat.le_of_eq rfl) (hb hby at_196) (fun _ _ => ⟨rfl, hh119, (by decide : 8 + 0 ≤ _), (by decide : 26 + 0 ≤ _)⟩)
  dsimp only [Pt.U, Pt.locs, Pt.cells, Pt.slots] at X121 l121 y121 z121 st121 hQ121
  subst l121 y121 z121
  obtain ⟨rfl, Nq121, hh121⟩ := hQ121
  have N121 := Fr.app N119 Nq121
  have heq : ∀ d ∈ StrChars.Road.wordsEq, d.before a0 Z = true := fun d hd => hw d (own_in_wordsEq d hd)
  have f122 : own_Str Z T104.heap b34 t53 kb53 ([c0, c1] : List Int32) := (((((((Sr53.ext E59).ext E66).other W75 ne67 ne69).other W78 ne67 ne69).keep Kq84 (ninS ne60 nin0) (ninS ne62 nin0)).keep Kq93 nin0 nin0).keep Kq104 nin0 nin0)
  have f124 : Exa Z T104.heap b34 "java/lang/String" := (((((((Sr53.1.ext E59).ext E66).wr W75).wr W78).keep Kq84).keep Kq93).keep Kq104)
  obtain ⟨cq123, kq123, qa123, qb123, qc123⟩ := isOf hZ hh121 f124
  obtain ⟨_, _, ⟨T123, L123, k123, n123⟩, -, X123, ⟨Lc123, hQ123, l123, y123, z123⟩, st123⟩ := X121.virtualBack hx (y := (⟨"java/lang/String", "equals", "(Ljava/lang/Object;)Z"⟩ : MethodName)) (z := (⟨"java/lang/String", "equals", "(Ljava/lang/Object;)Z"⟩ : MethodName)) hown (mvT hZ (hw _ (List.mem_of_getElem? (i := 65) rfl))) (mvT hZ (hw _ (List.mem_of_getElem? (i := 66) rfl))) (notFace_of_selects (args := #[]) (mvT hZ (hw _ (List.mem_of_getElem? (i := 68) rfl)))) (mvT hZ (hw _ (List.mem_of_getElem? (i := 68) rfl))) (mvT hZ (hw _ (List.mem_of_getElem? (i := 67) rfl))) (by decide) (StrChars.Road.eqW (W := 0) hZ heq (kI := 4) (hw _ (List.mem_of_getElem? (i := 1) rfl)) f122.1 f122.2.1 f122.2.2.1 f122.2.2.2.1 (StrChars.Road.codOf rfl (fun c hc => (f122.2.2.2.2.1 c hc).2)) (own_up f122.2.2.2.2.1) f122.2.2.2.2.2 f122.1 f122.2.1 f122.2.2.1 f122.2.2.2.1 (StrChars.Road.codOf rfl (fun c hc => (f122.2.2.2.2.1 c hc).2)) (own_up f122.2.2.2.2.1) f122.2.2.2.2.2 (hp0.ext (O0.keep K114 all0).2) hG1 (by decide) (by decide)) qa123 qc123 (g := (mkF m 199 #[.val (.int j0), .val (.long q1), .second, .val (.long q2), .second, .val (.int j3), .val (.int pb), .val (.int sc), .val (.int pb2), .val (.int c0), .val (.int c1), .val (.int e0_), .val (.int e1_), .val (.ref b34), .val (.ref b59), .val (.ref b_93), .val (.ref b_104), .val (.int (1 : Int32)), .unset] [(.ref b34), (.ref b34)])) rfl (by rw [hml]; rfl) (Steps.refl _) (argsL := [(.ref b34)]) (rest := []) (lenOf own_pd2 rfl) rfl (by show 2 * 0 + _ ≤ _; exact Nat.le_of_eq rfl) (hb hby at_199) (fun _ _ => ⟨rfl, hh121, (by decide : 8 + 0 ≤ _), (by decide : 26 + 0 ≤ _)⟩)
  dsimp only [Pt.U, Pt.locs, Pt.cells, Pt.slots] at X123 l123 y123 z123 st123 hQ123
  subst l123 y123 z123
  obtain ⟨hv123, rfl, hh123⟩ := hQ123
  obtain rfl := own_eqv hv123
  have N123 := Fr.app N121 (Fr.nil n0)
  have f125 : Fld Z T104.heap b_93 "com/example/holdfast/holdfast/ServerRun" "begunByNanos" "J" (.long q1) := (po93_4.keep Kq104 nin0)
  obtain ⟨cq126, kq126, qa126, qb126, qc126⟩ := isOf hZ hh123 f118
  obtain ⟨_, _, ⟨T126, L126, k126, n126⟩, -, X126, ⟨Lc126, hQ126, l126, y126, z126⟩, st126⟩ := X123.virtualBack hx (y := (⟨"com/example/holdfast/holdfast/ServerRun", "begunByNanos", "()J"⟩ : MethodName)) (z := (⟨"com/example/holdfast/holdfast/ServerRun", "begunByNanos", "()J"⟩ : MethodName)) hown (mvT hZ (hw _ (List.mem_of_getElem? (i := 70) rfl))) (mvT hZ (hw _ (List.mem_of_getElem? (i := 71) rfl))) (notFace_of_selects (args := #[]) (mvT hZ (hw _ (List.mem_of_getElem? (i := 73) rfl)))) (mvT hZ (hw _ (List.mem_of_getElem? (i := 73) rfl))) (mvT hZ (hw _ (List.mem_of_getElem? (i := 72) rfl))) (by decide) (backOf (W := 0) (own_gbegunByNanos l Z a0 hw [] (b_93) (q1) T104.heap n0 (O0.keep K114 all0) (f125)) hZ (hw _ (List.mem_of_getElem? (i := 74) rfl)) (hw _ (List.mem_of_getElem? (i := 32) rfl)) (by decide) (by decide)) qa126 qc126 (g := (mkF m 219 #[.val (.int j0), .val (.long q1), .second, .val (.long q2), .second, .val (.int j3), .val (.int pb), .val (.int sc), .val (.int pb2), .val (.int c0), .val (.int c1), .val (.int e0_), .val (.int e1_), .val (.ref b34), .val (.ref b59), .val (.ref b_93), .val (.ref b_104), .val (.int (1 : Int32)), .unset] [(.ref b_93)])) rfl (by rw [hml]; rfl) (Steps.refl _) (argsL := []) (rest := []) (lenOf own_pd6 rfl) rfl (by show 2 * 0 + _ ≤ _; exact Nat.le_of_eq rfl) (hb hby at_219) (fun _ _ => ⟨rfl, hh123, (by decide : 8 + 0 ≤ _), (by decide : 26 + 0 ≤ _)⟩)
  dsimp only [Pt.U, Pt.locs, Pt.cells, Pt.slots] at X126 l126 y126 z126 st126 hQ126
  subst l126 y126 z126
  obtain ⟨rfl, Nq126, hh126⟩ := hQ126
  have N126 := Fr.app N123 Nq126
  have f127 : Fld Z T104.heap b_93 "com/example/holdfast/holdfast/ServerRun" "persistsEveryWrite" "Z" (.int pb) := (f103.keep Kq104 nin0)
  obtain ⟨cq128, kq128, qa128, qb128, qc128⟩ := isOf hZ hh126 f118
  obtain ⟨_, _, ⟨T128, L128, k128, n128⟩, -, X128, ⟨Lc128, hQ128, l128, y128, z128⟩, st128⟩ := X126.virtualBack hx (y := (⟨"com/example/holdfast/holdfast/ServerRun", "persistsEveryWrite", "()Z"⟩ : MethodName)) (z := (⟨"com/example/holdfast/holdfast/ServerRun", "persistsEveryWrite", "()Z"⟩ : MethodName)) hown (mvT hZ (hw _ (List.mem_of_getElem? (i := 75) rfl))) (mvT hZ (hw _ (List.mem_of_getElem? (i := 76) rfl))) (notFace_of_selects (args := #[]) (mvT hZ (hw _ (List.mem_of_getElem? (i := 78) rfl)))) (mvT hZ (hw _ (List.mem_of_getElem? (i := 78) rfl))) (mvT hZ (hw _ (List.mem_of_getElem? (i := 77) rfl))) (by decide) (backOf (W := 0) (own_gpersistsEveryWrite l Z a0 hw [] (b_93) (pb) T104.heap n0 (O0.keep K114 all0) (hn_pb) (f127)) hZ (hw _ (List.mem_of_getElem? (i := 79) rfl)) (hw _ (List.mem_of_getElem? (i := 32) rfl)) (by decide) (by decide)) qa128 qc128 (g := (mkF m 241 #[.val (.int j0), .val (.long q1), .second, .val (.long q2), .second, .val (.int j3), .val (.int pb), .val (.int sc), .val (.int pb2), .val (.int c0), .val (.int c1), .val (.int e0_), .val (.int e1_), .val (.ref b34), .val (.ref b59), .val (.ref b_93), .val (.ref b_104), .val (.int (1 : Int32)), .unset] [(.ref b_93)])) rfl (by rw [hml]; rfl) (Steps.refl _) (argsL := []) (rest := []) (lenOf own_pd1 rfl) rfl (by show 2 * 0 + _ ≤ _; exact Nat.le_of_eq rfl) (hb hby at_241) (fun _ _ => ⟨rfl, hh126, (by decide : 8 + 0 ≤ _), (by decide : 26 + 0 ≤ _)⟩)
  dsimp only [Pt.U, Pt.locs, Pt.cells, Pt.slots] at X128 l128 y128 z128 st128 hQ128
  subst l128 y128 z128
  obtain ⟨rfl, Nq128, hh128⟩ := hQ128
  have N128 := Fr.app N126 Nq128
  obtain ⟨cq129, kq129, qa129, qb129, qc129⟩ := isOf hZ hh128 po104_2
  obtain ⟨_, _, ⟨T129, L129, k129, n129⟩, -, X129, ⟨Lc129, hQ129, l129, y129, z129⟩, st129⟩ := X128.virtualBack hx (y := (⟨"com/example/holdfast/holdfast/ServerRun", "begunByNanos", "()J"⟩ : MethodName)) (z := (⟨"com/example/holdfast/holdfast/ServerRun", "begunByNanos", "()J"⟩ : MethodName)) hown (mvT hZ (hw _ (List.mem_of_getElem? (i := 70) rfl))) (mvT hZ (hw _ (List.mem_of_getElem? (i := 71) rfl))) (notFace_of_selects (args := #[]) (mvT hZ (hw _ (List.mem_of_getElem? (i := 73) rfl)))) (mvT hZ (hw _ (List.mem_of_getElem? (i := 73) rfl))) (mvT hZ (hw _ (List.mem_of_getElem? (i := 72) rfl))) (by decide) (backOf (W := 0) (own_gbegunByNanos l Z a0 hw [] (b_104) (q2) T104.heap n0 (O0.keep K114 all0) (po104_4)) hZ (hw _ (List.mem_of_getElem? (i := 74) rfl)) (hw _ (List.mem_of_getElem? (i := 32) rfl)) (by decide) (by decide)) qa129 qc129 (g := (mkF m 263 #[.val (.int j0), .val (.long q1), .second, .val (.long q2), .second, .val (.int j3), .val (.int pb), .val (.int sc), .val (.int pb2), .val (.int c0), .val (.int c1), .val (.int e0_), .val (.int e1_), .val (.ref b34), .val (.ref b59), .val (.ref b_93), .val (.ref b_104), .val (.int (1 : Int32)), .unset] [(.ref b_104)])) rfl (by rw [hml]; rfl) (Steps.refl _) (argsL := []) (rest := []) (lenOf own_pd6 rfl) rfl (by show 2 * 0 + _ ≤ _; exact Nat.le_of_eq rfl) (hb hby at_263) (fun _ _ => ⟨rfl, hh128, (by decide : 8 + 0 ≤ _), (by decide : 26 + 0 ≤ _)⟩)
  dsimp only [Pt.U, Pt.locs, Pt.cells, Pt.slots] at X129 l129 y129 z129 st129 hQ129
  subst l129 y129 z129
  obtain ⟨rfl, Nq129, hh129⟩ := hQ129
  have N129 := Fr.app N128 Nq129
  obtain ⟨cq130, kq130, qa130, qb130, qc130⟩ := isOf hZ hh129 po104_2
  obtain ⟨_, _, ⟨T130, L130, k130, n130⟩, -, X130, ⟨Lc130, hQ130, l130, y130, z130⟩, st130⟩ := X129.virtualBack hx (y := (⟨"com/example/holdfast/holdfast/ServerRun", "persistsEveryWrite", "()Z"⟩ : MethodName)) (z := (⟨"com/example/holdfast/holdfast/ServerRun", "persistsEveryWrite", "()Z"⟩ : MethodName)) hown (mvT hZ (hw _ (List.mem_of_getElem? (i := 75) rfl))) (mvT hZ (hw _ (List.mem_of_getElem? (i := 76) rfl))) (notFace_of_selects (args := #[]) (mvT hZ (hw _ (List.mem_of_getElem? (i := 78) rfl)))) (mvT hZ (hw _ (List.mem_of_getElem? (i := 78) rfl))) (mvT hZ (hw _ (List.mem_of_getElem? (i := 77) rfl))) (by decide) (backOf (W := 0) (own_gpersistsEveryWrite l Z a0 hw [] (b_104) (pb2) T104.heap n0 (O0.keep K114 all0) (hn_pb2) (f115)) hZ (hw _ (List.mem_of_getElem? (i := 79) rfl)) (hw _ (List.mem_of_getElem? (i := 32) rfl)) (by decide) (by decide)) qa130 qc130 (g := (mkF m 285 #[.val (.int j0), .val (.long q1), .second, .val (.long q2), .second, .val (.int j3), .val (.int pb), .val (.int sc), .val (.int pb2), .val (.int c0), .val (.int c1), .val (.int e0_), .val (.int e1_), .val (.ref b34), .val (.ref b59), .val (.ref b_93), .val (.ref b_104), .val (.int (1 : Int32)), .unset] [(.ref b_104)])) rfl (by rw [hml]; rfl) (Steps.refl _) (argsL := []) (rest := []) (lenOf own_pd1 rfl) rfl (by show 2 * 0 + _ ≤ _; exact Nat.le_of_eq rfl) (hb hby at_285) (fun _ _ => ⟨rfl, hh129, (by decide : 8 + 0 ≤ _), (by decide : 26 + 0 ≤ _)⟩)
  dsimp only [Pt.U, Pt.locs, Pt.cells, Pt.slots] at X130 l130 y130 z130 st130 hQ130
  subst l130 y130 z130
  obtain ⟨rfl, Nq130, hh130⟩ := hQ130
  have N130 := Fr.app N129 Nq130
  have r131 : GoTo p.tables e below s₁ (own_F_own_law m j0 q1 q2 j3) T130 (mkF m 304 #[.val (.int j0), .val (.long q1), .second, .val (.long q2), .second, .val (.int j3), .val (.int pb), .val (.int sc), .val (.int pb2), .val (.int c0), .val (.int c1), .val (.int e0_), .val (.int e1_), .val (.ref b34), .val (.ref b59), .val (.ref b_93), .val (.ref b_104), .val (.int (1 : Int32)), .unset] [(.int e0_), (.int c0)]) := fun tt_ kk_ => r33 tt_ (by
      show Steps p.tables e below (T28.setTop (mkF m 96 #[.val (.int j0), .val (.long q1), .second, .val (.long q2), .second, .val (.int j3), .val (.int pb), .val (.int sc), .val (.int pb2), .val (.int c0), .val (.int c1), .val (.int e0_), .val (.int e1_), .unset, .unset, .unset, .unset, .unset, .unset] [])) _
      refine st34 _ ?_
      show Steps p.tables e below (T34.setTop (mkF m 99 #[.val (.int j0), .val (.long q1), .second, .val (.long q2), .second, .val (.int j3), .val (.int pb), .val (.int sc), .val (.int pb2), .val (.int c0), .val (.int c1), .val (.int e0_), .val (.int e1_), .unset, .unset, .unset, .unset, .unset, .unset] [(.ref b34)])) _
      refine XS.dup X34.here hx rfl (hb hby at_99) rfl rfl ?_
      show Steps p.tables e below (T34.setTop (mkF m 100 #[.val (.int j0), .val (.long q1), .second, .val (.long q2), .second, .val (.int j3), .val (.int pb), .val (.int sc), .val (.int pb2), .val (.int c0), .val (.int c1), .val (.int e0_), .val (.int e1_), .unset, .unset, .unset, .unset, .unset, .unset] [(.ref b34), (.ref b34)])) _
      refine XS.iconst X34.here hx rfl (hb hby at_100) ?_
      show Steps p.tables e below (T34.setTop (mkF m 101 #[.val (.int j0), .val (.long q1), .second, .val (.long q2), .second, .val (.int j3), .val (.int pb), .val (.int sc), .val (.int pb2), .val (.int c0), .val (.int c1), .val (.int e0_), .val (.int e1_), .unset, .unset, .unset, .unset, .unset, .unset] [(.int (2 : Int32)), (.ref b34), (.ref b34)])) _
      refine st38 _ ?_
      show Steps p.tables e below (T38.setTop (mkF m 103 #[.val (.int j0), .val (.long q1), .second, .val (.long q2), .second, .val (.int j3), .val (.int pb), .val (.int sc), .val (.int pb2), .val (.int c0), .val (.int c1), .val (.int e0_), .val (.int e1_), .unset, .unset, .unset, .unset, .unset, .unset] [(.ref b38), (.ref b34), (.ref b34)])) _
      refine XS.dup X38.here hx rfl (hb hby at_103) rfl rfl ?_
      show Steps p.tables e below (T38.setTop (mkF m 104 #[.val (.int j0), .val (.long q1), .second, .val (.long q2), .second, .val (.int j3), .val (.int pb), .val (.int sc), .val (.int pb2), .val (.int c0), .val (.int c1), .val (.int e0_), .val (.int e1_), .unset, .unset, .unset, .unset, .unset, .unset] [(.ref b38), (.ref b38), (.ref b34), (.ref b34)])) _
      refine XS.iconst X38.here hx rfl (hb hby at_104) ?_
      show Steps p.tables e below (T38.setTop (mkF m 105 #[.val (.int j0), .val (.long q1), .second, .val (.long q2), .second, .val (.int j3), .val (.int pb), .val (.int sc), .val (.int pb2), .val (.int c0), .val (.int c1), .val (.int e0_), .val (.int e1_), .unset, .unset, .unset, .unset, .unset, .unset] [(.int (0 : Int32)), (.ref b38), (.ref b38), (.ref b34), (.ref b34)])) _
      refine XS.iload X38.here hx rfl (hb hby at_105) rfl ?_
      show Steps p.tables e below (T38.setTop (mkF m 107 #[.val (.int j0), .val (.long q1), .second, .val (.long q2), .second, .val (.int j3), .val (.int pb), .val (.int sc), .val (.int pb2), .val (.int c0), .val (.int c1), .val (.int e0_), .val (.int e1_), .unset, .unset, .unset, .unset, .unset, .unset] [(.int c0), (.int (0 : Int32)), (.ref b38), (.ref b38), (.ref b34), (.ref b34)])) _
      refine st44 _ ?_
      show Steps p.tables e below (T44.setTop (mkF m 108 #[.val (.int j0), .val (.long q1), .second, .val (.long q2), .second, .val (.int j3), .val (.int pb), .val (.int sc), .val (.int pb2), .val (.int c0), .val (.int c1), .val (.int e0_), .val (.int e1_), .unset, .unset, .unset, .unset, .unset, .unset] [(.ref b38), (.ref b34), (.ref b34)])) _
      refine XS.dup X44.here hx rfl (hb hby at_108) rfl rfl ?_
      show Steps p.tables e below (T44.setTop (mkF m 109 #[.val (.int j0), .val (.long q1), .second, .val (.long q2), .second, .val (.int j3), .val (.int pb), .val (.int sc), .val (.int pb2), .val (.int c0), .val (.int c1), .val (.int e0_), .val (.int e1_), .unset, .unset, .unset, .unset, .unset, .unset] [(.ref b38), (.ref b38), (.ref b34), (.ref b34)])) _
      refine XS.iconst X44.here hx rfl (hb hby at_109) ?_
      show Steps p.tables e below (T44.setTop (mkF m 110 #[.val (.int j0), .val (.long q1), .second, .val (.long q2), .second, .val (.int j3), .val (.int pb), .val (.int sc), .val (.int pb2), .val (.int c0), .val (.int c1), .val (.int e0_), .val (.int e1_), .unset, .unset, .unset, .unset, .unset, .unset] [(.int (1 : Int32)), (.ref b38), (.ref b38), (.ref b34), (.ref b34)])) _
      refine XS.iload X44.here hx rfl (hb hby at_110) rfl ?_
      show Steps p.tables e below (T44.setTop (mkF m 112 #[.val (.int j0), .val (.long q1), .second, .val (.long q2), .second, .val (.int j3), .val (.int pb), .val (.int sc), .val (.int pb2), .val (.int c0), .val (.int c1), .val (.int e0_), .val (.int e1_), .unset, .unset, .unset, .unset, .unset, .unset] [(.int c1), (.int (1 : Int32)), (.ref b38), (.ref b38), (.ref b34), (.ref b34)])) _
      refine st47 _ ?_
      show Steps p.tables e below (T47.setTop (mkF m 113 #[.val (.int j0), .val (.long q1), .second, .val (.long q2), .second, .val (.int j3), .val (.int pb), .val (.int sc), .val (.int pb2), .val (.int c0), .val (.int c1), .val (.int e0_), .val (.int e1_), .unset, .unset, .unset, .unset, .unset, .unset] [(.ref b38), (.ref b34), (.ref b34)])) _
      refine st53.trans ?_
      show Steps p.tables e below (T53.setTop (mkF m 116 #[.val (.int j0), .val (.long q1), .second, .val (.long q2), .second, .val (.int j3), .val (.int pb), .val (.int sc), .val (.int pb2), .val (.int c0), .val (.int c1), .val (.int e0_), .val (.int e1_), .unset, .unset, .unset, .unset, .unset, .unset] [(.ref b34)])) _
      refine XS.astore X53.here hx rfl (hb hby at_116) rfl rfl (l' := #[.val (.int j0), .val (.long q1), .second, .val (.long q2), .second, .val (.int j3), .val (.int pb), .val (.int sc), .val (.int pb2), .val (.int c0), .val (.int c1), .val (.int e0_), .val (.int e1_), .val (.ref b34), .unset, .unset, .unset, .unset, .unset]) rfl ?_
      show Steps p.tables e below (T53.setTop (mkF m 118 #[.val (.int j0), .val (.long q1), .second, .val (.long q2), .second, .val (.int j3), .val (.int pb), .val (.int sc), .val (.int pb2), .val (.int c0), .val (.int c1), .val (.int e0_), .val (.int e1_), .val (.ref b34), .unset, .unset, .unset, .unset, .unset] [])) _
      refine st59 _ ?_
      show Steps p.tables e below (T59.setTop (mkF m 121 #[.val (.int j0), .val (.long q1), .second, .val (.long q2), .second, .val (.int j3), .val (.int pb), .val (.int sc), .val (.int pb2), .val (.int c0), .val (.int c1), .val (.int e0_), .val (.int e1_), .val (.ref b34), .unset, .unset, .unset, .unset, .unset] [(.ref b59)])) _
      refine XS.dup X59.here hx rfl (hb hby at_121) rfl rfl ?_
      show Steps p.tables e below (T59.setTop (mkF m 122 #[.val (.int j0), .val (.long q1), .second, .val (.long q2), .second, .val (.int j3), .val (.int pb), .val (.int sc), .val (.int pb2), .val (.int c0), .val (.int c1), .val (.int e0_), .val (.int e1_), .val (.ref b34), .unset, .unset, .unset, .unset, .unset] [(.ref b59), (.ref b59)])) _
      refine XS.iconst X59.here hx rfl (hb hby at_122) ?_
      show Steps p.tables e below (T59.setTop (mkF m 123 #[.val (.int j0), .val (.long q1), .second, .val (.long q2), .second, .val (.int j3), .val (.int pb), .val (.int sc), .val (.int pb2), .val (.int c0), .val (.int c1), .val (.int e0_), .val (.int e1_), .val (.ref b34), .unset, .unset, .unset, .unset, .unset] [(.int (2 : Int32)), (.ref b59), (.ref b59)])) _
      refine st66 _ ?_
      show Steps p.tables e below (T66.setTop (mkF m 125 #[.val (.int j0), .val (.long q1), .second, .val (.long q2), .second, .val (.int j3), .val (.int pb), .val (.int sc), .val (.int pb2), .val (.int c0), .val (.int c1), .val (.int e0_), .val (.int e1_), .val (.ref b34), .unset, .unset, .unset, .unset, .unset] [(.ref b66), (.ref b59), (.ref b59)])) _
      refine XS.dup X66.here hx rfl (hb hby at_125) rfl rfl ?_
      show Steps p.tables e below (T66.setTop (mkF m 126 #[.val (.int j0), .val (.long q1), .second, .val (.long q2), .second, .val (.int j3), .val (.int pb), .val (.int sc), .val (.int pb2), .val (.int c0), .val (.int c1), .val (.int e0_), .val (.int e1_), .val (.ref b34), .unset, .unset, .unset, .unset, .unset] [(.ref b66), (.ref b66), (.ref b59), (.ref b59)])) _
      refine XS.iconst X66.here hx rfl (hb hby at_126) ?_
      show Steps p.tables e below (T66.setTop (mkF m 127 #[.val (.int j0), .val (.long q1), .second, .val (.long q2), .second, .val (.int j3), .val (.int pb), .val (.int sc), .val (.int pb2), .val (.int c0), .val (.int c1), .val (.int e0_), .val (.int e1_), .val (.ref b34), .unset, .unset, .unset, .unset, .unset] [(.int (0 : Int32)), (.ref b66), (.ref b66), (.ref b59), (.ref b59)])) _
      refine XS.iload X66.here hx rfl (hb hby at_127) rfl ?_
      show Steps p.tables e below (T66.setTop (mkF m 129 #[.val (.int j0), .val (.long q1), .second, .val (.long q2), .second, .val (.int j3), .val (.int pb), .val (.int sc), .val (.int pb2), .val (.int c0), .val (.int c1), .val (.int e0_), .val (.int e1_), .val (.ref b34), .unset, .unset, .unset, .unset, .unset] [(.int e0_), (.int (0 : Int32)), (.ref b66), (.ref b66), (.ref b59), (.ref b59)])) _
      refine st75 _ ?_
      show Steps p.tables e below (T75.setTop (mkF m 130 #[.val (.int j0), .val (.long q1), .second, .val (.long q2), .second, .val (.int j3), .val (.int pb), .val (.int sc), .val (.int pb2), .val (.int c0), .val (.int c1), .val (.int e0_), .val (.int e1_), .val (.ref b34), .unset, .unset, .unset, .unset, .unset] [(.ref b66), (.ref b59), (.ref b59)])) _
      refine XS.dup X75.here hx rfl (hb hby at_130) rfl rfl ?_
      show Steps p.tables e below (T75.setTop (mkF m 131 #[.val (.int j0), .val (.long q1), .second, .val (.long q2), .second, .val (.int j3), .val (.int pb), .val (.int sc), .val (.int pb2), .val (.int c0), .val (.int c1), .val (.int e0_), .val (.int e1_), .val (.ref b34), .unset, .unset, .unset, .unset, .unset] [(.ref b66), (.ref b66), (.ref b59), (.ref b59)])) _
      refine XS.iconst X75.here hx rfl (hb hby at_131) ?_
      show Steps p.tables e below (T75.setTop (mkF m 132 #[.val (.int j0), .val (.long q1), .second, .val (.long q2), .second, .val (.int j3), .val (.int pb), .val (.int sc), .val (.int pb2), .val (.int c0), .val (.int c1), .val (.int e0_), .val (.int e1_), .val (.ref b34), .unset, .unset, .unset, .unset, .unset] [(.int (1 : Int32)), (.ref b66), (.ref b66), (.ref b59), (.ref b59)])) _
      refine XS.iload X75.here hx rfl (hb hby at_132) rfl ?_
      show Steps p.tables e below (T75.setTop (mkF m 134 #[.val (.int j0), .val (.long q1), .second, .val (.long q2), .second, .val (.int j3), .val (.int pb), .val (.int sc), .val (.int pb2), .val (.int c0), .val (.int c1), .val (.int e0_), .val (.int e1_), .val (.ref b34), .unset, .unset, .unset, .unset, .unset] [(.int e1_), (.int (1 : Int32)), (.ref b66), (.ref b66), (.ref b59), (.ref b59)])) _
      refine st78 _ ?_
      show Steps p.tables e below (T78.setTop (mkF m 135 #[.val (.int j0), .val (.long q1), .second, .val (.long q2), .second, .val (.int j3), .val (.int pb), .val (.int sc), .val (.int pb2), .val (.int c0), .val (.int c1), .val (.int e0_), .val (.int e1_), .val (.ref b34), .unset, .unset, .unset, .unset, .unset] [(.ref b66), (.ref b59), (.ref b59)])) _
      refine st84.trans ?_
      show Steps p.tables e below (T84.setTop (mkF m 138 #[.val (.int j0), .val (.long q1), .second, .val (.long q2), .second, .val (.int j3), .val (.int pb), .val (.int sc), .val (.int pb2), .val (.int c0), .val (.int c1), .val (.int e0_), .val (.int e1_), .val (.ref b34), .unset, .unset, .unset, .unset, .unset] [(.ref b59)])) _
      refine XS.astore X84.here hx rfl (hb hby at_138) rfl rfl (l' := #[.val (.int j0), .val (.long q1), .second, .val (.long q2), .second, .val (.int j3), .val (.int pb), .val (.int sc), .val (.int pb2), .val (.int c0), .val (.int c1), .val (.int e0_), .val (.int e1_), .val (.ref b34), .val (.ref b59), .unset, .unset, .unset, .unset]) rfl ?_
      show Steps p.tables e below (T84.setTop (mkF m 140 #[.val (.int j0), .val (.long q1), .second, .val (.long q2), .second, .val (.int j3), .val (.int pb), .val (.int sc), .val (.int pb2), .val (.int c0), .val (.int c1), .val (.int e0_), .val (.int e1_), .val (.ref b34), .val (.ref b59), .unset, .unset, .unset, .unset] [])) _
      refine XS.aload X84.here hx rfl (hb hby at_140) rfl rfl ?_
      show Steps p.tables e below (T84.setTop (mkF m 142 #[.val (.int j0), .val (.long q1), .second, .val (.long q2), .second, .val (.int j3), .val (.int pb), .val (.int sc), .val (.int pb2), .val (.int c0), .val (.int c1), .val (.int e0_), .val (.int e1_), .val (.ref b34), .val (.ref b59), .unset, .unset, .unset, .unset] [(.ref b34)])) _
      refine XS.lloadN X84.here hx rfl (hb hby at_142) rfl ?_
      show Steps p.tables e below (T84.setTop (mkF m 143 #[.val (.int j0), .val (.long q1), .second, .val (.long q2), .second, .val (.int j3), .val (.int pb), .val (.int sc), .val (.int pb2), .val (.int c0), .val (.int c1), .val (.int e0_), .val (.int e1_), .val (.ref b34), .val (.ref b59), .unset, .unset, .unset, .unset] [(.long q1), (.ref b34)])) _
      refine XS.iload X84.here hx rfl (hb hby at_143) rfl ?_
      show Steps p.tables e below (T84.setTop (mkF m 145 #[.val (.int j0), .val (.long q1), .second, .val (.long q2), .second, .val (.int j3), .val (.int pb), .val (.int sc), .val (.int pb2), .val (.int c0), .val (.int c1), .val (.int e0_), .val (.int e1_), .val (.ref b34), .val (.ref b59), .unset, .unset, .unset, .unset] [(.int pb), (.long q1), (.ref b34)])) _
      refine st93 _ ?_
      show Steps p.tables e below (T93.setTop (mkF m 148 #[.val (.int j0), .val (.long q1), .second, .val (.long q2), .second, .val (.int j3), .val (.int pb), .val (.int sc), .val (.int pb2), .val (.int c0), .val (.int c1), .val (.int e0_), .val (.int e1_), .val (.ref b34), .val (.ref b59), .unset, .unset, .unset, .unset] [(.ref b_93)])) _
      refine XS.astore X93.here hx rfl (hb hby at_148) rfl rfl (l' := #[.val (.int j0), .val (.long q1), .second, .val (.long q2), .second, .val (.int j3), .val (.int pb), .val (.int sc), .val (.int pb2), .val (.int c0), .val (.int c1), .val (.int e0_), .val (.int e1_), .val (.ref b34), .val (.ref b59), .val (.ref b_93), .unset, .unset, .unset]) rfl ?_
      show Steps p.tables e below (T93.setTop (mkF m 150 #[.val (.int j0), .val (.long q1), .second, .val (.long q2), .second, .val (.int j3), .val (.int pb), .val (.int sc), .val (.int pb2), .val (.int c0), .val (.int c1), .val (.int e0_), .val (.int e1_), .val (.ref b34), .val (.ref b59), .val (.ref b_93), .unset, .unset, .unset] [])) _
      refine XS.aload X93.here hx rfl (hb hby at_150) rfl rfl ?_
      show Steps p.tables e below (T93.setTop (mkF m 152 #[.val (.int j0), .val (.long q1), .second, .val (.long q2), .second, .val (.int j3), .val (.int pb), .val (.int sc), .val (.int pb2), .val (.int c0), .val (.int c1), .val (.int e0_), .val (.int e1_), .val (.ref b34), .val (.ref b59), .val (.ref b_93), .unset, .unset, .unset] [(.ref b59)])) _
      refine XS.lloadN X93.here hx rfl (hb hby at_152) rfl ?_
      show Steps p.tables e below (T93.setTop (mkF m 153 #[.val (.int j0), .val (.long q1), .second, .val (.long q2), .second, .val (.int j3), .val (.int pb), .val (.int sc), .val (.int pb2), .val (.int c0), .val (.int c1), .val (.int e0_), .val (.int e1_), .val (.ref b34), .val (.ref b59), .val (.ref b_93), .unset, .unset, .unset] [(.long q2), (.ref b59)])) _
      refine XS.iload X93.here hx rfl (hb hby at_153) rfl ?_
      show Steps p.tables e below (T93.setTop (mkF m 155 #[.val (.int j0), .val (.long q1), .second, .val (.long q2), .second, .val (.int j3), .val (.int pb), .val (.int sc), .val (.int pb2), .val (.int c0), .val (.int c1), .val (.int e0_), .val (.int e1_), .val (.ref b34), .val (.ref b59), .val (.ref b_93), .unset, .unset, .unset] [(.int pb2), (.long q2), (.ref b59)])) _
      refine st104 _ ?_
      show Steps p.tables e below (T104.setTop (mkF m 158 #[.val (.int j0), .val (.long q1), .second, .val (.long q2), .second, .val (.int j3), .val (.int pb), .val (.int sc), .val (.int pb2), .val (.int c0), .val (.int c1), .val (.int e0_), .val (.int e1_), .val (.ref b34), .val (.ref b59), .val (.ref b_93), .unset, .unset, .unset] [(.ref b_104)])) _
      refine XS.astore X104.here hx rfl (hb hby at_158) rfl rfl (l' := #[.val (.int j0), .val (.long q1), .second, .val (.long q2), .second, .val (.int j3), .val (.int pb), .val (.int sc), .val (.int pb2), .val (.int c0), .val (.int c1), .val (.int e0_), .val (.int e1_), .val (.ref b34), .val (.ref b59), .val (.ref b_93), .val (.ref b_104), .unset, .unset]) rfl ?_
      show Steps p.tables e below (T104.setTop (mkF m 160 #[.val (.int j0), .val (.long q1), .second, .val (.long q2), .second, .val (.int j3), .val (.int pb), .val (.int sc), .val (.int pb2), .val (.int c0), .val (.int c1), .val (.int e0_), .val (.int e1_), .val (.ref b34), .val (.ref b59), .val (.ref b_93), .val (.ref b_104), .unset, .unset] [])) _
      refine XS.aload X104.here hx rfl (hb hby at_160) rfl rfl ?_
      show Steps p.tables e below (T104.setTop (mkF m 162 #[.val (.int j0), .val (.long q1), .second, .val (.long q2), .second, .val (.int j3), .val (.int pb), .val (.int sc), .val (.int pb2), .val (.int c0), .val (.int c1), .val (.int e0_), .val (.int e1_), .val (.ref b34), .val (.ref b59), .val (.ref b_93), .val (.ref b_104), .unset, .unset] [(.ref b_93)])) _
      refine st117.trans ?_
      show Steps p.tables e below (T117.setTop (mkF m 165 #[.val (.int j0), .val (.long q1), .second, .val (.long q2), .second, .val (.int j3), .val (.int pb), .val (.int sc), .val (.int pb2), .val (.int c0), .val (.int c1), .val (.int e0_), .val (.int e1_), .val (.ref b34), .val (.ref b59), .val (.ref b_93), .val (.ref b_104), .unset, .unset] [(.int (1 : Int32))])) _
      refine XS.istore X117.here hx rfl (hb hby at_165) rfl (l' := #[.val (.int j0), .val (.long q1), .second, .val (.long q2), .second, .val (.int j3), .val (.int pb), .val (.int sc), .val (.int pb2), .val (.int c0), .val (.int c1), .val (.int e0_), .val (.int e1_), .val (.ref b34), .val (.ref b59), .val (.ref b_93), .val (.ref b_104), .val (.int (1 : Int32)), .unset]) rfl ?_
      show Steps p.tables e below (T117.setTop (mkF m 167 #[.val (.int j0), .val (.long q1), .second, .val (.long q2), .second, .val (.int j3), .val (.int pb), .val (.int sc), .val (.int pb2), .val (.int c0), .val (.int c1), .val (.int e0_), .val (.int e1_), .val (.ref b34), .val (.ref b59), .val (.ref b_93), .val (.ref b_104), .val (.int (1 : Int32)), .unset] [])) _
      refine XS.iload X117.here hx rfl (hb hby at_167) rfl ?_
      show Steps p.tables e below (T117.setTop (mkF m 169 #[.val (.int j0), .val (.long q1), .second, .val (.long q2), .second, .val (.int j3), .val (.int pb), .val (.int sc), .val (.int pb2), .val (.int c0), .val (.int c1), .val (.int e0_), .val (.int e1_), .val (.ref b34), .val (.ref b59), .val (.ref b_93), .val (.ref b_104), .val (.int (1 : Int32)), .unset] [(.int (1 : Int32))])) _
      refine XS.ifNo X117.here hx rfl (hb hby at_169) rfl ((if0 _ _).trans (feq (by decide)).1) ?_
      show Steps p.tables e below (T117.setTop (mkF m 172 #[.val (.int j0), .val (.long q1), .second, .val (.long q2), .second, .val (.int j3), .val (.int pb), .val (.int sc), .val (.int pb2), .val (.int c0), .val (.int c1), .val (.int e0_), .val (.int e1_), .val (.ref b34), .val (.ref b59), .val (.ref b_93), .val (.ref b_104), .val (.int (1 : Int32)), .unset] [])) _
      refine XS.aload X117.here hx rfl (hb hby at_172) rfl rfl ?_
      show Steps p.tables e below (T117.setTop (mkF m 174 #[.val (.int j0), .val (.long q1), .second, .val (.long q2), .second, .val (.int j3), .val (.int pb), .val (.int sc), .val (.int pb2), .val (.int c0), .val (.int c1), .val (.int e0_), .val (.int e1_), .val (.ref b34), .val (.ref b59), .val (.ref b_93), .val (.ref b_104), .val (.int (1 : Int32)), .unset] [(.ref b_93)])) _
      refine st119.trans ?_
      show Steps p.tables e below (T119.setTop (mkF m 177 #[.val (.int j0), .val (.long q1), .second, .val (.long q2), .second, .val (.int j3), .val (.int pb), .val (.int sc), .val (.int pb2), .val (.int c0), .val (.int c1), .val (.int e0_), .val (.int e1_), .val (.ref b34), .val (.ref b59), .val (.ref b_93), .val (.ref b_104), .val (.int (1 : Int32)), .unset] [.null])) _
      refine XS.ifnonnullNo X119.here hx rfl (hb hby at_177) rfl ?_
      show Steps p.tables e below (T119.setTop (mkF m 180 #[.val (.int j0), .val (.long q1), .second, .val (.long q2), .second, .val (.int j3), .val (.int pb), .val (.int sc), .val (.int pb2), .val (.int c0), .val (.int c1), .val (.int e0_), .val (.int e1_), .val (.ref b34), .val (.ref b59), .val (.ref b_93), .val (.ref b_104), .val (.int (1 : Int32)), .unset] [])) _
      refine XS.iconst X119.here hx rfl (hb hby at_180) ?_
      show Steps p.tables e below (T119.setTop (mkF m 181 #[.val (.int j0), .val (.long q1), .second, .val (.long q2), .second, .val (.int j3), .val (.int pb), .val (.int sc), .val (.int pb2), .val (.int c0), .val (.int c1), .val (.int e0_), .val (.int e1_), .val (.ref b34), .val (.ref b59), .val (.ref b_93), .val (.ref b_104), .val (.int (1 : Int32)), .unset] [(.int (1 : Int32))])) _
      refine XS.goto X119.here hx rfl (pc0 := 181) (pc' := 185) rfl (hb hby at_181) (by decide) (by decide) ?_
      show Steps p.tables e below (T119.setTop (mkF m 185 #[.val (.int j0), .val (.long q1), .second, .val (.long q2), .second, .val (.int j3), .val (.int pb), .val (.int sc), .val (.int pb2), .val (.int c0), .val (.int c1), .val (.int e0_), .val (.int e1_), .val (.ref b34), .val (.ref b59), .val (.ref b_93), .val (.ref b_104), .val (.int (1 : Int32)), .unset] [(.int (1 : Int32))])) _
      refine XS.istore X119.here hx rfl (hb hby at_185) rfl (l' := #[.val (.int j0), .val (.long q1), .second, .val (.long q2), .second, .val (.int j3), .val (.int pb), .val (.int sc), .val (.int pb2), .val (.int c0), .val (.int c1), .val (.int e0_), .val (.int e1_), .val (.ref b34), .val (.ref b59), .val (.ref b_93), .val (.ref b_104), .val (.int (1 : Int32)), .unset]) rfl ?_
      show Steps p.tables e below (T119.setTop (mkF m 187 #[.val (.int j0), .val (.long q1), .second, .val (.long q2), .second, .val (.int j3), .val (.int pb), .val (.int sc), .val (.int pb2), .val (.int c0), .val (.int c1), .val (.int e0_), .val (.int e1_), .val (.ref b34), .val (.ref b59), .val (.ref b_93), .val (.ref b_104), .val (.int (1 : Int32)), .unset] [])) _
      refine XS.iload X119.here hx rfl (hb hby at_187) rfl ?_
      show Steps p.tables e below (T119.setTop (mkF m 189 #[.val (.int j0), .val (.long q1), .second, .val (.long q2), .second, .val (.int j3), .val (.int pb), .val (.int sc), .val (.int pb2), .val (.int c0), .val (.int c1), .val (.int e0_), .val (.int e1_), .val (.ref b34), .val (.ref b59), .val (.ref b_93), .val (.ref b_104), .val (.int (1 : Int32)), .unset] [(.int (1 : Int32))])) _
      refine XS.ifNo X119.here hx rfl (hb hby at_189) rfl ((if0 _ _).trans (feq (by decide)).1) ?_
      show Steps p.tables e below (T119.setTop (mkF m 192 #[.val (.int j0), .val (.long q1), .second, .val (.long q2), .second, .val (.int j3), .val (.int pb), .val (.int sc), .val (.int pb2), .val (.int c0), .val (.int c1), .val (.int e0_), .val (.int e1_), .val (.ref b34), .val (.ref b59), .val (.ref b_93), .val (.ref b_104), .val (.int (1 : Int32)), .unset] [])) _
      refine XS.aload X119.here hx rfl (hb hby at_192) rfl rfl ?_
      show Steps p.tables e below (T119.setTop (mkF m 194 #[.val (.int j0), .val (.long q1), .second, .val (.long q2), .second, .val (.int j3), .val (.int pb), .val (.int sc), .val (.int pb2), .val (.int c0), .val (.int c1), .val (.int e0_), .val (.int e1_), .val (.ref b34), .val (.ref b59), .val (.ref b_93), .val (.ref b_104), .val (.int (1 : Int32)), .unset] [(.ref b34)])) _
      refine XS.aload X119.here hx rfl (hb hby at_194) rfl rfl ?_
      show Steps p.tables e below (T119.setTop (mkF m 196 #[.val (.int j0), .val (.long q1), .second, .val (.long q2), .second, .val (.int j3), .val (.int pb), .val (.int sc), .val (.int pb2), .val (.int c0), .val (.int c1), .val (.int e0_), .val (.int e1_), .val (.ref b34), .val (.ref b59), .val (.ref b_93), .val (.ref b_104), .val (.int (1 : Int32)), .unset] [(.ref b_93), (.ref b34)])) _
      refine st121.trans ?_
      show Steps p.tables e below (T121.setTop (mkF m 199 #[.val (.int j0), .val (.long q1), .second, .val (.long q2), .second, .val (.int j3), .val (.int pb), .val (.int sc), .val (.int pb2), .val (.int c0), .val (.int c1), .val (.int e0_), .val (.int e1_), .val (.ref b34), .val (.ref b59), .val (.ref b_93), .val (.ref b_104), .val (.int (1 : Int32)), .unset] [(.ref b34), (.ref b34)])) _
      refine st123.trans ?_
      show Steps p.tables e below (T123.setTop (mkF m 202 #[.val (.int j0), .val (.long q1), .second, .val (.long q2), .second, .val (.int j3), .val (.int pb), .val (.int sc), .val (.int pb2), .val (.int c0), .val (.int c1), .val (.int e0_), .val (.int e1_), .val (.ref b34), .val (.ref b59), .val (.ref b_93), .val (.ref b_104), .val (.int (1 : Int32)), .unset] [(.int (if ([c0, c1] : List Int32) = ([c0, c1] : List Int32) then (1 : Int32) else 0))])) _
      refine XS.ifNo X123.here hx rfl (hb hby at_202) rfl ((if0 _ _).trans (feq (by rw [if_pos rfl]; decide)).1) ?_
      show Steps p.tables e below (T123.setTop (mkF m 205 #[.val (.int j0), .val (.long q1), .second, .val (.long q2), .second, .val (.int j3), .val (.int pb), .val (.int sc), .val (.int pb2), .val (.int c0), .val (.int c1), .val (.int e0_), .val (.int e1_), .val (.ref b34), .val (.ref b59), .val (.ref b_93), .val (.ref b_104), .val (.int (1 : Int32)), .unset] [])) _
      refine XS.iconst X123.here hx rfl (hb hby at_205) ?_
      show Steps p.tables e below (T123.setTop (mkF m 206 #[.val (.int j0), .val (.long q1), .second, .val (.long q2), .second, .val (.int j3), .val (.int pb), .val (.int sc), .val (.int pb2), .val (.int c0), .val (.int c1), .val (.int e0_), .val (.int e1_), .val (.ref b34), .val (.ref b59), .val (.ref b_93), .val (.ref b_104), .val (.int (1 : Int32)), .unset] [(.int (1 : Int32))])) _
      refine XS.goto X123.here hx rfl (pc0 := 206) (pc' := 210) rfl (hb hby at_206) (by decide) (by decide) ?_
      show Steps p.tables e below (T123.setTop (mkF m 210 #[.val (.int j0), .val (.long q1), .second, .val (.long q2), .second, .val (.int j3), .val (.int pb), .val (.int sc), .val (.int pb2), .val (.int c0), .val (.int c1), .val (.int e0_), .val (.int e1_), .val (.ref b34), .val (.ref b59), .val (.ref b_93), .val (.ref b_104), .val (.int (1 : Int32)), .unset] [(.int (1 : Int32))])) _
      refine XS.istore X123.here hx rfl (hb hby at_210) rfl (l' := #[.val (.int j0), .val (.long q1), .second, .val (.long q2), .second, .val (.int j3), .val (.int pb), .val (.int sc), .val (.int pb2), .val (.int c0), .val (.int c1), .val (.int e0_), .val (.int e1_), .val (.ref b34), .val (.ref b59), .val (.ref b_93), .val (.ref b_104), .val (.int (1 : Int32)), .unset]) rfl ?_
      show Steps p.tables e below (T123.setTop (mkF m 212 #[.val (.int j0), .val (.long q1), .second, .val (.long q2), .second, .val (.int j3), .val (.int pb), .val (.int sc), .val (.int pb2), .val (.int c0), .val (.int c1), .val (.int e0_), .val (.int e1_), .val (.ref b34), .val (.ref b59), .val (.ref b_93), .val (.ref b_104), .val (.int (1 : Int32)), .unset] [])) _
      refine XS.iload X123.here hx rfl (hb hby at_212) rfl ?_
      show Steps p.tables e below (T123.setTop (mkF m 214 #[.val (.int j0), .val (.long q1), .second, .val (.long q2), .second, .val (.int j3), .val (.int pb), .val (.int sc), .val (.int pb2), .val (.int c0), .val (.int c1), .val (.int e0_), .val (.int e1_), .val (.ref b34), .val (.ref b59), .val (.ref b_93), .val (.ref b_104), .val (.int (1 : Int32)), .unset] [(.int (1 : Int32))])) _
      refine XS.ifNo X123.here hx rfl (hb hby at_214) rfl ((if0 _ _).trans (feq (by decide)).1) ?_
      show Steps p.tables e below (T123.setTop (mkF m 217 #[.val (.int j0), .val (.long q1), .second, .val (.long q2), .second, .val (.int j3), .val (.int pb), .val (.int sc), .val (.int pb2), .val (.int c0), .val (.int c1), .val (.int e0_), .val (.int e1_), .val (.ref b34), .val (.ref b59), .val (.ref b_93), .val (.ref b_104), .val (.int (1 : Int32)), .unset] [])) _
      refine XS.aload X123.here hx rfl (hb hby at_217) rfl rfl ?_
      show Steps p.tables e below (T123.setTop (mkF m 219 #[.val (.int j0), .val (.long q1), .second, .val (.long q2), .second, .val (.int j3), .val (.int pb), .val (.int sc), .val (.int pb2), .val (.int c0), .val (.int c1), .val (.int e0_), .val (.int e1_), .val (.ref b34), .val (.ref b59), .val (.ref b_93), .val (.ref b_104), .val (.int (1 : Int32)), .unset] [(.ref b_93)])) _
      refine st126.trans ?_
      show Steps p.tables e below (T126.setTop (mkF m 222 #[.val (.int j0), .val (.long q1), .second, .val (.long q2), .second, .val (.int j3), .val (.int pb), .val (.int sc), .val (.int pb2), .val (.int c0), .val (.int c1), .val (.int e0_), .val (.int e1_), .val (.ref b34), .val (.ref b59), .val (.ref b_93), .val (.ref b_104), .val (.int (1 : Int32)), .unset] [(.long q1)])) _
      refine XS.lloadN X126.here hx rfl (hb hby at_222) rfl ?_
      show Steps p.tables e below (T126.setTop (mkF m 223 #[.val (.int j0), .val (.long q1), .second, .val (.long q2), .second, .val (.int j3), .val (.int pb), .val (.int sc), .val (.int pb2), .val (.int c0), .val (.int c1), .val (.int e0_), .val (.int e1_), .val (.ref b34), .val (.ref b59), .val (.ref b_93), .val (.ref b_104), .val (.int (1 : Int32)), .unset] [(.long q1), (.long q1)])) _
      refine XS.lcmp X126.here hx rfl (hb hby at_223) rfl ?_
      show Steps p.tables e below (T126.setTop (mkF m 224 #[.val (.int j0), .val (.long q1), .second, .val (.long q2), .second, .val (.int j3), .val (.int pb), .val (.int sc), .val (.int pb2), .val (.int c0), .val (.int c1), .val (.int e0_), .val (.int e1_), .val (.ref b34), .val (.ref b59), .val (.ref b_93), .val (.ref b_104), .val (.int (1 : Int32)), .unset] [(.int (lcmpW q1 q1))])) _
      refine XS.ifNo X126.here hx rfl (hb hby at_224) rfl ((if0 _ _).trans (teq ((lw_eq _ _).mpr rfl)).2) ?_
      show Steps p.tables e below (T126.setTop (mkF m 227 #[.val (.int j0), .val (.long q1), .second, .val (.long q2), .second, .val (.int j3), .val (.int pb), .val (.int sc), .val (.int pb2), .val (.int c0), .val (.int c1), .val (.int e0_), .val (.int e1_), .val (.ref b34), .val (.ref b59), .val (.ref b_93), .val (.ref b_104), .val (.int (1 : Int32)), .unset] [])) _
      refine XS.iconst X126.here hx rfl (hb hby at_227) ?_
      show Steps p.tables e below (T126.setTop (mkF m 228 #[.val (.int j0), .val (.long q1), .second, .val (.long q2), .second, .val (.int j3), .val (.int pb), .val (.int sc), .val (.int pb2), .val (.int c0), .val (.int c1), .val (.int e0_), .val (.int e1_), .val (.ref b34), .val (.ref b59), .val (.ref b_93), .val (.ref b_104), .val (.int (1 : Int32)), .unset] [(.int (1 : Int32))])) _
      refine XS.goto X126.here hx rfl (pc0 := 228) (pc' := 232) rfl (hb hby at_228) (by decide) (by decide) ?_
      show Steps p.tables e below (T126.setTop (mkF m 232 #[.val (.int j0), .val (.long q1), .second, .val (.long q2), .second, .val (.int j3), .val (.int pb), .val (.int sc), .val (.int pb2), .val (.int c0), .val (.int c1), .val (.int e0_), .val (.int e1_), .val (.ref b34), .val (.ref b59), .val (.ref b_93), .val (.ref b_104), .val (.int (1 : Int32)), .unset] [(.int (1 : Int32))])) _
      refine XS.istore X126.here hx rfl (hb hby at_232) rfl (l' := #[.val (.int j0), .val (.long q1), .second, .val (.long q2), .second, .val (.int j3), .val (.int pb), .val (.int sc), .val (.int pb2), .val (.int c0), .val (.int c1), .val (.int e0_), .val (.int e1_), .val (.ref b34), .val (.ref b59), .val (.ref b_93), .val (.ref b_104), .val (.int (1 : Int32)), .unset]) rfl ?_
      show Steps p.tables e below (T126.setTop (mkF m 234 #[.val (.int j0), .val (.long q1), .second, .val (.long q2), .second, .val (.int j3), .val (.int pb), .val (.int sc), .val (.int pb2), .val (.int c0), .val (.int c1), .val (.int e0_), .val (.int e1_), .val (.ref b34), .val (.ref b59), .val (.ref b_93), .val (.ref b_104), .val (.int (1 : Int32)), .unset] [])) _
      refine XS.iload X126.here hx rfl (hb hby at_234) rfl ?_
      show Steps p.tables e below (T126.setTop (mkF m 236 #[.val (.int j0), .val (.long q1), .second, .val (.long q2), .second, .val (.int j3), .val (.int pb), .val (.int sc), .val (.int pb2), .val (.int c0), .val (.int c1), .val (.int e0_), .val (.int e1_), .val (.ref b34), .val (.ref b59), .val (.ref b_93), .val (.ref b_104), .val (.int (1 : Int32)), .unset] [(.int (1 : Int32))])) _
      refine XS.ifNo X126.here hx rfl (hb hby at_236) rfl ((if0 _ _).trans (feq (by decide)).1) ?_
      show Steps p.tables e below (T126.setTop (mkF m 239 #[.val (.int j0), .val (.long q1), .second, .val (.long q2), .second, .val (.int j3), .val (.int pb), .val (.int sc), .val (.int pb2), .val (.int c0), .val (.int c1), .val (.int e0_), .val (.int e1_), .val (.ref b34), .val (.ref b59), .val (.ref b_93), .val (.ref b_104), .val (.int (1 : Int32)), .unset] [])) _
      refine XS.aload X126.here hx rfl (hb hby at_239) rfl rfl ?_
      show Steps p.tables e below (T126.setTop (mkF m 241 #[.val (.int j0), .val (.long q1), .second, .val (.long q2), .second, .val (.int j3), .val (.int pb), .val (.int sc), .val (.int pb2), .val (.int c0), .val (.int c1), .val (.int e0_), .val (.int e1_), .val (.ref b34), .val (.ref b59), .val (.ref b_93), .val (.ref b_104), .val (.int (1 : Int32)), .unset] [(.ref b_93)])) _
      refine st128.trans ?_
      show Steps p.tables e below (T128.setTop (mkF m 244 #[.val (.int j0), .val (.long q1), .second, .val (.long q2), .second, .val (.int j3), .val (.int pb), .val (.int sc), .val (.int pb2), .val (.int c0), .val (.int c1), .val (.int e0_), .val (.int e1_), .val (.ref b34), .val (.ref b59), .val (.ref b_93), .val (.ref b_104), .val (.int (1 : Int32)), .unset] [(.int pb)])) _
      refine XS.iload X128.here hx rfl (hb hby at_244) rfl ?_
      show Steps p.tables e below (T128.setTop (mkF m 246 #[.val (.int j0), .val (.long q1), .second, .val (.long q2), .second, .val (.int j3), .val (.int pb), .val (.int sc), .val (.int pb2), .val (.int c0), .val (.int c1), .val (.int e0_), .val (.int e1_), .val (.ref b34), .val (.ref b59), .val (.ref b_93), .val (.ref b_104), .val (.int (1 : Int32)), .unset] [(.int pb), (.int pb)])) _
      refine XS.icmpNo X128.here hx rfl (hb hby at_246) rfl (teq rfl).2 ?_
      show Steps p.tables e below (T128.setTop (mkF m 249 #[.val (.int j0), .val (.long q1), .second, .val (.long q2), .second, .val (.int j3), .val (.int pb), .val (.int sc), .val (.int pb2), .val (.int c0), .val (.int c1), .val (.int e0_), .val (.int e1_), .val (.ref b34), .val (.ref b59), .val (.ref b_93), .val (.ref b_104), .val (.int (1 : Int32)), .unset] [])) _
      refine XS.iconst X128.here hx rfl (hb hby at_249) ?_
      show Steps p.tables e below (T128.setTop (mkF m 250 #[.val (.int j0), .val (.long q1), .second, .val (.long q2), .second, .val (.int j3), .val (.int pb), .val (.int sc), .val (.int pb2), .val (.int c0), .val (.int c1), .val (.int e0_), .val (.int e1_), .val (.ref b34), .val (.ref b59), .val (.ref b_93), .val (.ref b_104), .val (.int (1 : Int32)), .unset] [(.int (1 : Int32))])) _
      refine XS.goto X128.here hx rfl (pc0 := 250) (pc' := 254) rfl (hb hby at_250) (by decide) (by decide) ?_
      show Steps p.tables e below (T128.setTop (mkF m 254 #[.val (.int j0), .val (.long q1), .second, .val (.long q2), .second, .val (.int j3), .val (.int pb), .val (.int sc), .val (.int pb2), .val (.int c0), .val (.int c1), .val (.int e0_), .val (.int e1_), .val (.ref b34), .val (.ref b59), .val (.ref b_93), .val (.ref b_104), .val (.int (1 : Int32)), .unset] [(.int (1 : Int32))])) _
      refine XS.istore X128.here hx rfl (hb hby at_254) rfl (l' := #[.val (.int j0), .val (.long q1), .second, .val (.long q2), .second, .val (.int j3), .val (.int pb), .val (.int sc), .val (.int pb2), .val (.int c0), .val (.int c1), .val (.int e0_), .val (.int e1_), .val (.ref b34), .val (.ref b59), .val (.ref b_93), .val (.ref b_104), .val (.int (1 : Int32)), .unset]) rfl ?_
      show Steps p.tables e below (T128.setTop (mkF m 256 #[.val (.int j0), .val (.long q1), .second, .val (.long q2), .second, .val (.int j3), .val (.int pb), .val (.int sc), .val (.int pb2), .val (.int c0), .val (.int c1), .val (.int e0_), .val (.int e1_), .val (.ref b34), .val (.ref b59), .val (.ref b_93), .val (.ref b_104), .val (.int (1 : Int32)), .unset] [])) _
      refine XS.iload X128.here hx rfl (hb hby at_256) rfl ?_
      show Steps p.tables e below (T128.setTop (mkF m 258 #[.val (.int j0), .val (.long q1), .second, .val (.long q2), .second, .val (.int j3), .val (.int pb), .val (.int sc), .val (.int pb2), .val (.int c0), .val (.int c1), .val (.int e0_), .val (.int e1_), .val (.ref b34), .val (.ref b59), .val (.ref b_93), .val (.ref b_104), .val (.int (1 : Int32)), .unset] [(.int (1 : Int32))])) _
      refine XS.ifNo X128.here hx rfl (hb hby at_258) rfl ((if0 _ _).trans (feq (by decide)).1) ?_
      show Steps p.tables e below (T128.setTop (mkF m 261 #[.val (.int j0), .val (.long q1), .second, .val (.long q2), .second, .val (.int j3), .val (.int pb), .val (.int sc), .val (.int pb2), .val (.int c0), .val (.int c1), .val (.int e0_), .val (.int e1_), .val (.ref b34), .val (.ref b59), .val (.ref b_93), .val (.ref b_104), .val (.int (1 : Int32)), .unset] [])) _
      refine XS.aload X128.here hx rfl (hb hby at_261) rfl rfl ?_
      show Steps p.tables e below (T128.setTop (mkF m 263 #[.val (.int j0), .val (.long q1), .second, .val (.long q2), .second, .val (.int j3), .val (.int pb), .val (.int sc), .val (.int pb2), .val (.int c0), .val (.int c1), .val (.int e0_), .val (.int e1_), .val (.ref b34), .val (.ref b59), .val (.ref b_93), .val (.ref b_104), .val (.int (1 : Int32)), .unset] [(.ref b_104)])) _
      refine st129.trans ?_
      show Steps p.tables e below (T129.setTop (mkF m 266 #[.val (.int j0), .val (.long q1), .second, .val (.long q2), .second, .val (.int j3), .val (.int pb), .val (.int sc), .val (.int pb2), .val (.int c0), .val (.int c1), .val (.int e0_), .val (.int e1_), .val (.ref b34), .val (.ref b59), .val (.ref b_93), .val (.ref b_104), .val (.int (1 : Int32)), .unset] [(.long q2)])) _
      refine XS.lloadN X129.here hx rfl (hb hby at_266) rfl ?_
      show Steps p.tables e below (T129.setTop (mkF m 267 #[.val (.int j0), .val (.long q1), .second, .val (.long q2), .second, .val (.int j3), .val (.int pb), .val (.int sc), .val (.int pb2), .val (.int c0), .val (.int c1), .val (.int e0_), .val (.int e1_), .val (.ref b34), .val (.ref b59), .val (.ref b_93), .val (.ref b_104), .val (.int (1 : Int32)), .unset] [(.long q2), (.long q2)])) _
      refine XS.lcmp X129.here hx rfl (hb hby at_267) rfl ?_
      show Steps p.tables e below (T129.setTop (mkF m 268 #[.val (.int j0), .val (.long q1), .second, .val (.long q2), .second, .val (.int j3), .val (.int pb), .val (.int sc), .val (.int pb2), .val (.int c0), .val (.int c1), .val (.int e0_), .val (.int e1_), .val (.ref b34), .val (.ref b59), .val (.ref b_93), .val (.ref b_104), .val (.int (1 : Int32)), .unset] [(.int (lcmpW q2 q2))])) _
      refine XS.ifNo X129.here hx rfl (hb hby at_268) rfl ((if0 _ _).trans (teq ((lw_eq _ _).mpr rfl)).2) ?_
      show Steps p.tables e below (T129.setTop (mkF m 271 #[.val (.int j0), .val (.long q1), .second, .val (.long q2), .second, .val (.int j3), .val (.int pb), .val (.int sc), .val (.int pb2), .val (.int c0), .val (.int c1), .val (.int e0_), .val (.int e1_), .val (.ref b34), .val (.ref b59), .val (.ref b_93), .val (.ref b_104), .val (.int (1 : Int32)), .unset] [])) _
      refine XS.iconst X129.here hx rfl (hb hby at_271) ?_
      show Steps p.tables e below (T129.setTop (mkF m 272 #[.val (.int j0), .val (.long q1), .second, .val (.long q2), .second, .val (.int j3), .val (.int pb), .val (.int sc), .val (.int pb2), .val (.int c0), .val (.int c1), .val (.int e0_), .val (.int e1_), .val (.ref b34), .val (.ref b59), .val (.ref b_93), .val (.ref b_104), .val (.int (1 : Int32)), .unset] [(.int (1 : Int32))])) _
      refine XS.goto X129.here hx rfl (pc0 := 272) (pc' := 276) rfl (hb hby at_272) (by decide) (by decide) ?_
      show Steps p.tables e below (T129.setTop (mkF m 276 #[.val (.int j0), .val (.long q1), .second, .val (.long q2), .second, .val (.int j3), .val (.int pb), .val (.int sc), .val (.int pb2), .val (.int c0), .val (.int c1), .val (.int e0_), .val (.int e1_), .val (.ref b34), .val (.ref b59), .val (.ref b_93), .val (.ref b_104), .val (.int (1 : Int32)), .unset] [(.int (1 : Int32))])) _
      refine XS.istore X129.here hx rfl (hb hby at_276) rfl (l' := #[.val (.int j0), .val (.long q1), .second, .val (.long q2), .second, .val (.int j3), .val (.int pb), .val (.int sc), .val (.int pb2), .val (.int c0), .val (.int c1), .val (.int e0_), .val (.int e1_), .val (.ref b34), .val (.ref b59), .val (.ref b_93), .val (.ref b_104), .val (.int (1 : Int32)), .unset]) rfl ?_
      show Steps p.tables e below (T129.setTop (mkF m 278 #[.val (.int j0), .val (.long q1), .second, .val (.long q2), .second, .val (.int j3), .val (.int pb), .val (.int sc), .val (.int pb2), .val (.int c0), .val (.int c1), .val (.int e0_), .val (.int e1_), .val (.ref b34), .val (.ref b59), .val (.ref b_93), .val (.ref b_104), .val (.int (1 : Int32)), .unset] [])) _
      refine XS.iload X129.here hx rfl (hb hby at_278) rfl ?_
      show Steps p.tables e below (T129.setTop (mkF m 280 #[.val (.int j0), .val (.long q1), .second, .val (.long q2), .second, .val (.int j3), .val (.int pb), .val (.int sc), .val (.int pb2), .val (.int c0), .val (.int c1), .val (.int e0_), .val (.int e1_), .val (.ref b34), .val (.ref b59), .val (.ref b_93), .val (.ref b_104), .val (.int (1 : Int32)), .unset] [(.int (1 : Int32))])) _
      refine XS.ifNo X129.here hx rfl (hb hby at_280) rfl ((if0 _ _).trans (feq (by decide)).1) ?_
      show Steps p.tables e below (T129.setTop (mkF m 283 #[.val (.int j0), .val (.long q1), .second, .val (.long q2), .second, .val (.int j3), .val (.int pb), .val (.int sc), .val (.int pb2), .val (.int c0), .val (.int c1), .val (.int e0_), .val (.int e1_), .val (.ref b34), .val (.ref b59), .val (.ref b_93), .val (.ref b_104), .val (.int (1 : Int32)), .unset] [])) _
      refine XS.aload X129.here hx rfl (hb hby at_283) rfl rfl ?_
      show Steps p.tables e below (T129.setTop (mkF m 285 #[.val (.int j0), .val (.long q1), .second, .val (.long q2), .second, .val (.int j3), .val (.int pb), .val (.int sc), .val (.int pb2), .val (.int c0), .val (.int c1), .val (.int e0_), .val (.int e1_), .val (.ref b34), .val (.ref b59), .val (.ref b_93), .val (.ref b_104), .val (.int (1 : Int32)), .unset] [(.ref b_104)])) _
      refine st130.trans ?_
      show Steps p.tables e below (T130.setTop (mkF m 288 #[.val (.int j0), .val (.long q1), .second, .val (.long q2), .second, .val (.int j3), .val (.int pb), .val (.int sc), .val (.int pb2), .val (.int c0), .val (.int c1), .val (.int e0_), .val (.int e1_), .val (.ref b34), .val (.ref b59), .val (.ref b_93), .val (.ref b_104), .val (.int (1 : Int32)), .unset] [(.int pb2)])) _
      refine XS.iload X130.here hx rfl (hb hby at_288) rfl ?_
      show Steps p.tables e below (T130.setTop (mkF m 290 #[.val (.int j0), .val (.long q1), .second, .val (.long q2), .second, .val (.int j3), .val (.int pb), .val (.int sc), .val (.int pb2), .val (.int c0), .val (.int c1), .val (.int e0_), .val (.int e1_), .val (.ref b34), .val (.ref b59), .val (.ref b_93), .val (.ref b_104), .val (.int (1 : Int32)), .unset] [(.int pb2), (.int pb2)])) _
      refine XS.icmpNo X130.here hx rfl (hb hby at_290) rfl (teq rfl).2 ?_
      show Steps p.tables e below (T130.setTop (mkF m 293 #[.val (.int j0), .val (.long q1), .second, .val (.long q2), .second, .val (.int j3), .val (.int pb), .val (.int sc), .val (.int pb2), .val (.int c0), .val (.int c1), .val (.int e0_), .val (.int e1_), .val (.ref b34), .val (.ref b59), .val (.ref b_93), .val (.ref b_104), .val (.int (1 : Int32)), .unset] [])) _
      refine XS.iconst X130.here hx rfl (hb hby at_293) ?_
      show Steps p.tables e below (T130.setTop (mkF m 294 #[.val (.int j0), .val (.long q1), .second, .val (.long q2), .second, .val (.int j3), .val (.int pb), .val (.int sc), .val (.int pb2), .val (.int c0), .val (.int c1), .val (.int e0_), .val (.int e1_), .val (.ref b34), .val (.ref b59), .val (.ref b_93), .val (.ref b_104), .val (.int (1 : Int32)), .unset] [(.int (1 : Int32))])) _
      refine XS.goto X130.here hx rfl (pc0 := 294) (pc' := 298) rfl (hb hby at_294) (by decide) (by decide) ?_
      show Steps p.tables e below (T130.setTop (mkF m 298 #[.val (.int j0), .val (.long q1), .second, .val (.long q2), .second, .val (.int j3), .val (.int pb), .val (.int sc), .val (.int pb2), .val (.int c0), .val (.int c1), .val (.int e0_), .val (.int e1_), .val (.ref b34), .val (.ref b59), .val (.ref b_93), .val (.ref b_104), .val (.int (1 : Int32)), .unset] [(.int (1 : Int32))])) _
      refine XS.istore X130.here hx rfl (hb hby at_298) rfl (l' := #[.val (.int j0), .val (.long q1), .second, .val (.long q2), .second, .val (.int j3), .val (.int pb), .val (.int sc), .val (.int pb2), .val (.int c0), .val (.int c1), .val (.int e0_), .val (.int e1_), .val (.ref b34), .val (.ref b59), .val (.ref b_93), .val (.ref b_104), .val (.int (1 : Int32)), .unset]) rfl ?_
      show Steps p.tables e below (T130.setTop (mkF m 300 #[.val (.int j0), .val (.long q1), .second, .val (.long q2), .second, .val (.int j3), .val (.int pb), .val (.int sc), .val (.int pb2), .val (.int c0), .val (.int c1), .val (.int e0_), .val (.int e1_), .val (.ref b34), .val (.ref b59), .val (.ref b_93), .val (.ref b_104), .val (.int (1 : Int32)), .unset] [])) _
      refine XS.iload X130.here hx rfl (hb hby at_300) rfl ?_
      show Steps p.tables e below (T130.setTop (mkF m 302 #[.val (.int j0), .val (.long q1), .second, .val (.long q2), .second, .val (.int j3), .val (.int pb), .val (.int sc), .val (.int pb2), .val (.int c0), .val (.int c1), .val (.int e0_), .val (.int e1_), .val (.ref b34), .val (.ref b59), .val (.ref b_93), .val (.ref b_104), .val (.int (1 : Int32)), .unset] [(.int c0)])) _
      refine XS.iload X130.here hx rfl (hb hby at_302) rfl ?_
      show Steps p.tables e below (T130.setTop (mkF m 304 #[.val (.int j0), .val (.long q1), .second, .val (.long q2), .second, .val (.int j3), .val (.int pb), .val (.int sc), .val (.int pb2), .val (.int c0), .val (.int c1), .val (.int e0_), .val (.int e1_), .val (.ref b34), .val (.ref b59), .val (.ref b_93), .val (.ref b_104), .val (.int (1 : Int32)), .unset] [(.int e0_), (.int c0)])) _
      exact kk_)
  obtain ⟨T132, Lj132, X132, N132, e132, r132⟩ : ∃ (T' : State) (L' : List Loc), Stand p l e room_1 s m #[(.int j0), (.long q1), (.long q2), (.int j3)] below meth c T' L' 8 26 ∧ Fr n0 L' ∧ T'.heap = T104.heap ∧ GoTo p.tables e below s₁ (own_F_own_law m j0 q1 q2 j3) T' (mkF m 319 #[.val (.int j0), .val (.long q1), .second, .val (.long q2), .second, .val (.int j3), .val (.int pb), .val (.int sc), .val (.int pb2), .val (.int c0), .val (.int c1), .val (.int e0_), .val (.int e1_), .val (.ref b34), .val (.ref b59), .val (.ref b_93), .val (.ref b_104), .val (.int (1 : Int32)), .unset] [(.int (if c0 = e0_ then (if c1 = e1_ then (1 : Int32) else (0 : Int32)) else (0 : Int32)))]) := by
    by_cases hc133 : c0 = e0_
    · have r134 : GoTo p.tables e below s₁ (own_F_own_law m j0 q1 q2 j3) T130 (mkF m 311 #[.val (.int j0), .val (.long q1), .second, .val (.long q2), .second, .val (.int j3), .val (.int pb), .val (.int sc), .val (.int pb2), .val (.int c0), .val (.int c1), .val (.int e0_), .val (.int e1_), .val (.ref b34), .val (.ref b59), .val (.ref b_93), .val (.ref b_104), .val (.int (1 : Int32)), .unset] [(.int e1_), (.int c1)]) := fun tt_ kk_ => r131 tt_ (by
          show Steps p.tables e below (T130.setTop (mkF m 304 #[.val (.int j0), .val (.long q1), .second, .val (.long q2), .second, .val (.int j3), .val (.int pb), .val (.int sc), .val (.int pb2), .val (.int c0), .val (.int c1), .val (.int e0_), .val (.int e1_), .val (.ref b34), .val (.ref b59), .val (.ref b_93), .val (.ref b_104), .val (.int (1 : Int32)), .unset] [(.int e0_), (.int c0)])) _
          refine XS.icmpNo X130.here hx rfl (hb hby at_304) rfl (teq hc133).2 ?_
          show Steps p.tables e below (T130.setTop (mkF m 307 #[.val (.int j0), .val (.long q1), .second, .val (.long q2), .second, .val (.int j3), .val (.int pb), .val (.int sc), .val (.int pb2), .val (.int c0), .val (.int c1), .val (.int e0_), .val (.int e1_), .val (.ref b34), .val (.ref b59), .val (.ref b_93), .val (.ref b_104), .val (.int (1 : Int32)), .unset] [])) _
          refine XS.iload X130.here hx rfl (hb hby at_307) rfl ?_
          show Steps p.tables e below (T130.setTop (mkF m 309 #[.val (.int j0), .val (.long q1), .second, .val (.long q2), .second, .val (.int j3), .val (.int pb), .val (.int sc), .val (.int pb2), .val (.int c0), .val (.int c1), .val (.int e0_), .val (.int e1_), .val (.ref b34), .val (.ref b59), .val (.ref b_93), .val (.ref b_104), .val (.int (1 : Int32)), .unset] [(.int c1)])) _
          refine XS.iload X130.here hx rfl (hb hby at_309) rfl ?_
          show Steps p.tables e below (T130.setTop (mkF m 311 #[.val (.int j0), .val (.long q1), .second, .val (.long q2), .second, .val (.int j3), .val (.int pb), .val (.int sc), .val (.int pb2), .val (.int c0), .val (.int c1), .val (.int e0_), .val (.int e1_), .val (.ref b34), .val (.ref b59), .val (.ref b_93), .val (.ref b_104), .val (.int (1 : Int32)), .unset] [(.int e1_), (.int c1)])) _
          exact kk_)
      by_cases hc135 : c1 = e1_
      · have r136 : GoTo p.tables e below s₁ (own_F_own_law m j0 q1 q2 j3) T130 (mkF m 319 #[.val (.int j0), .val (.long q1), .second, .val (.long q2), .second, .val (.int j3), .val (.int pb), .val (.int sc), .val (.int pb2), .val (.int c0), .val (.int c1), .val (.int e0_), .val (.int e1_), .val (.ref b34), .val (.ref b59), .val (.ref b_93), .val (.ref b_104), .val (.int (1 : Int32)), .unset] [(.int (1 : Int32))]) := fun tt_ kk_ => r134 tt_ (by
            show Steps p.tables e below (T130.setTop (mkF m 311 #[.val (.int j0), .val (.long q1), .second, .val (.long q2), .second, .val (.int j3), .val (.int pb), .val (.int sc), .val (.int pb2), .val (.int c0), .val (.int c1), .val (.int e0_), .val (.int e1_), .val (.ref b34), .val (.ref b59), .val (.ref b_93), .val (.ref b_104), .val (.int (1 : Int32)), .unset] [(.int e1_), (.int c1)])) _
            refine XS.icmpNo X130.here hx rfl (hb hby at_311) rfl (teq hc135).2 ?_
            show Steps p.tables e below (T130.setTop (mkF m 314 #[.val (.int j0), .val (.long q1), .second, .val (.long q2), .second, .val (.int j3), .val (.int pb), .val (.int sc), .val (.int pb2), .val (.int c0), .val (.int c1), .val (.int e0_), .val (.int e1_), .val (.ref b34), .val (.ref b59), .val (.ref b_93), .val (.ref b_104), .val (.int (1 : Int32)), .unset] [])) _
            refine XS.iconst X130.here hx rfl (hb hby at_314) ?_
            show Steps p.tables e below (T130.setTop (mkF m 315 #[.val (.int j0), .val (.long q1), .second, .val (.long q2), .second, .val (.int j3), .val (.int pb), .val (.int sc), .val (.int pb2), .val (.int c0), .val (.int c1), .val (.int e0_), .val (.int e1_), .val (.ref b34), .val (.ref b59), .val (.ref b_93), .val (.ref b_104), .val (.int (1 : Int32)), .unset] [(.int (1 : Int32))])) _
            refine XS.goto X130.here hx rfl (pc0 := 315) (pc' := 319) rfl (hb hby at_315) (by decide) (by decide) ?_
            show Steps p.tables e below (T130.setTop (mkF m 319 #[.val (.int j0), .val (.long q1), .second, .val (.long q2), .second, .val (.int j3), .val (.int pb), .val (.int sc), .val (.int pb2), .val (.int c0), .val (.int c1), .val (.int e0_), .val (.int e1_), .val (.ref b34), .val (.ref b59), .val (.ref b_93), .val (.ref b_104), .val (.int (1 : Int32)), .unset] [(.int (1 : Int32))])) _
            exact kk_)
        exact ⟨T130, _, X130, N130, hh130, by rw [show (if c0 = e0_ then (if c1 = e1_ then (1 : Int32) else (0 : Int32)) else (0 : Int32)) = (1 : Int32) from ((if_pos hc133).trans (if_pos hc135))]; exact r136⟩
      · have r137 : GoTo p.tables e below s₁ (own_F_own_law m j0 q1 q2 j3) T130 (mkF m 319 #[.val (.int j0), .val (.long q1), .second, .val (.long q2), .second, .val (.int j3), .val (.int pb), .val (.int sc), .val (.int pb2), .val (.int c0), .val (.int c1), .val (.int e0_), .val (.int e1_), .val (.ref b34), .val (.ref b59), .val (.ref b_93), .val (.ref b_104), .val (.int (1 : Int32)), .unset] [(.int (0 : Int32))]) := fun tt_ kk_ => r134 tt_ (by
            show Steps p.tables e below (T130.setTop (mkF m 311 #[.val (.int j0), .val (.long q1), .second, .val (.long q2), .second, .val (.int j3), .val (.int pb), .val (.int sc), .val (.int pb2), .val (.int c0), .val (.int c1), .val (.int e0_), .val (.int e1_), .val (.ref b34), .val (.ref b59), .val (.ref b_93), .val (.ref b_104), .val (.int (1 : Int32)), .unset] [(.int e1_), (.int c1)])) _
            refine XS.icmpYes X130.here hx rfl (pc0 := 311) (pc' := 318) rfl (hb hby at_311) rfl (feq hc135).2 (by decide) (by decide) ?_
            show Steps p.tables e below (T130.setTop (mkF m 318 #[.val (.int j0), .val (.long q1), .second, .val (.long q2), .second, .val (.int j3), .val (.int pb), .val (.int sc), .val (.int pb2), .val (.int c0), .val (.int c1), .val (.int e0_), .val (.int e1_), .val (.ref b34), .val (.ref b59), .val (.ref b_93), .val (.ref b_104), .val (.int (1 : Int32)), .unset] [])) _
            refine XS.iconst X130.here hx rfl (hb hby at_318) ?_
            show Steps p.tables e below (T130.setTop (mkF m 319 #[.val (.int j0), .val (.long q1), .second, .val (.long q2), .second, .val (.int j3), .val (.int pb), .val (.int sc), .val (.int pb2), .val (.int c0), .val (.int c1), .val (.int e0_), .val (.int e1_), .val (.ref b34), .val (.ref b59), .val (.ref b_93), .val (.ref b_104), .val (.int (1 : Int32)), .unset] [(.int (0 : Int32))])) _
            exact kk_)
        exact ⟨T130, _, X130, N130, hh130, by rw [show (if c0 = e0_ then (if c1 = e1_ then (1 : Int32) else (0 : Int32)) else (0 : Int32)) = (0 : Int32) from ((if_pos hc133).trans (if_neg hc135))]; exact r137⟩
    · have r138 : GoTo p.tables e below s₁ (own_F_own_law m j0 q1 q2 j3) T130 (mkF m 319 #[.val (.int j0), .val (.long q1), .second, .val (.long q2), .second, .val (.int j3), .val (.int pb), .val (.int sc), .val (.int pb2), .val (.int c0), .val (.int c1), .val (.int e0_), .val (.int e1_), .val (.ref b34), .val (.ref b59), .val (.ref b_93), .val (.ref b_104), .val (.int (1 : Int32)), .unset] [(.int (0 : Int32))]) := fun tt_ kk_ => r131 tt_ (by
          show Steps p.tables e below (T130.setTop (mkF m 304 #[.val (.int j0), .val (.long q1), .second, .val (.long q2), .second, .val (.int j3), .val (.int pb), .val (.int sc), .val (.int pb2), .val (.int c0), .val (.int c1), .val (.int e0_), .val (.int e1_), .val (.ref b34), .val (.ref b59), .val (.ref b_93), .val (.ref b_104), .val (.int (1 : Int32)), .unset] [(.int e0_), (.int c0)])) _
          refine XS.icmpYes X130.here hx rfl (pc0 := 304) (pc' := 318) rfl (hb hby at_304) rfl (feq hc133).2 (by decide) (by decide) ?_
          show Steps p.tables e below (T130.setTop (mkF m 318 #[.val (.int j0), .val (.long q1), .second, .val (.long q2), .second, .val (.int j3), .val (.int pb), .val (.int sc), .val (.int pb2), .val (.int c0), .val (.int c1), .val (.int e0_), .val (.int e1_), .val (.ref b34), .val (.ref b59), .val (.ref b_93), .val (.ref b_104), .val (.int (1 : Int32)), .unset] [])) _
          refine XS.iconst X130.here hx rfl (hb hby at_318) ?_
          show Steps p.tables e below (T130.setTop (mkF m 319 #[.val (.int j0), .val (.long q1), .second, .val (.long q2), .second, .val (.int j3), .val (.int pb), .val (.int sc), .val (.int pb2), .val (.int c0), .val (.int c1), .val (.int e0_), .val (.int e1_), .val (.ref b34), .val (.ref b59), .val (.ref b_93), .val (.ref b_104), .val (.int (1 : Int32)), .unset] [(.int (0 : Int32))])) _
          exact kk_)
      exact ⟨T130, _, X130, N130, hh130, by rw [show (if c0 = e0_ then (if c1 = e1_ then (1 : Int32) else (0 : Int32)) else (0 : Int32)) = (0 : Int32) from (if_neg hc133)]; exact r138⟩
  obtain ⟨es, h_es⟩ : ∃ z : Int32, z = (if c0 = e0_ then (if c1 = e1_ then (1 : Int32) else (0 : Int32)) else (0 : Int32)) := ⟨_, rfl⟩
  have r139 : GoTo p.tables e below s₁ (own_F_own_law m j0 q1 q2 j3) T132 (mkF m 319 #[.val (.int j0), .val (.long q1), .second, .val (.long q2), .second, .val (.int j3), .val (.int pb), .val (.int sc), .val (.int pb2), .val (.int c0), .val (.int c1), .val (.int e0_), .val (.int e1_), .val (.ref b34), .val (.ref b59), .val (.ref b_93), .val (.ref b_104), .val (.int (1 : Int32)), .unset] [(.int es)]) := by rw [h_es]; exact r132
  have f140 : own_Str Z T104.heap b59 t84 kb84 ([e0_, e1_] : List Int32) := ((Sr84.keep Kq93 nin0 nin0).keep Kq104 nin0 nin0)
  obtain ⟨cq141, kq141, qa141, qb141, qc141⟩ := isOf hZ e132 f118
  obtain ⟨_, _, ⟨T141, L141, k141, n141⟩, -, X141, ⟨Lc141, hQ141, l141, y141, z141⟩, st141⟩ := X132.virtualBack hx (y := (⟨"com/example/holdfast/holdfast/ServerRun", "isSameRunAs", "(Lcom/example/holdfast/holdfast/ServerRun;)Z"⟩ : MethodName)) (z := (⟨"com/example/holdfast/holdfast/ServerRun", "isSameRunAs", "(Lcom/example/holdfast/holdfast/ServerRun;)Z"⟩ : MethodName)) hown (mvT hZ (hw _ (List.mem_of_getElem? (i := 80) rfl))) (mvT hZ (hw _ (List.mem_of_getElem? (i := 81) rfl))) (notFace_of_selects (args := #[]) (mvT hZ (hw _ (List.mem_of_getElem? (i := 83) rfl)))) (mvT hZ (hw _ (List.mem_of_getElem? (i := 83) rfl))) (mvT hZ (hw _ (List.mem_of_getElem? (i := 82) rfl))) (by decide) (backOf (W := 0) (own_same l Z a0 hw [] (b_93) (b_104) (b34) (b59) (t53) (t84) (kb53) (kb84) (([c0, c1] : List Int32)) (([e0_, e1_] : List Int32)) (G1) T104.heap n0 (O0.keep K114 all0) (f118) (po104_2) (f116) (po104_6) (f120) (po104_3) (f122) (f140) (hp0) (hG1)) hZ (hw _ (List.mem_of_getElem? (i := 84) rfl)) (hw _ (List.mem_of_getElem? (i := 32) rfl)) (by decide) (by decide)) qa141 qc141 (g := (mkF m 330 #[.val (.int j0), .val (.long q1), .second, .val (.long q2), .second, .val (.int j3), .val (.int pb), .val (.int sc), .val (.int pb2), .val (.int c0), .val (.int c1), .val (.int e0_), .val (.int e1_), .val (.ref b34), .val (.ref b59), .val (.ref b_93), .val (.ref b_104), .val (.int (1 : Int32)), .val (.int es)] [(.ref b_104), (.ref b_93)])) rfl (by rw [hml]; rfl) (Steps.refl _) (argsL := [(.ref b_104)]) (rest := []) (lenOf own_pd7 rfl) rfl (by show 2 * 0 + _ ≤ _; exact Nat.le_of_eq rfl) (hb hby at_330) (fun _ _ => ⟨rfl, e132, (by decide : 8 + 0 ≤ _), (by decide : 26 + 0 ≤ _)⟩)
  dsimp only [Pt.U, Pt.locs, Pt.cells, Pt.slots] at X141 l141 y141 z141 st141 hQ141
  subst l141 y141 z141
  obtain ⟨rfl, Nq141, hh141⟩ := hQ141
  have N141 := Fr.app N132 Nq141
  obtain ⟨fs, hr, hrun, hended, hW, hsame⟩ := X141.leave (v := some (.int (nar .boolean (1 : Int32)))) (fun h => by rw [Bd.returns] at h; cases h)
  refine ⟨_, _, r139 _ ?_, hrun, hended, _, _, rfl, ?_, ⟨_, rfl⟩, hW, hsame.mono (by decide) (by decide)⟩
  · show Steps p.tables e below (T132.setTop (mkF m 319 #[.val (.int j0), .val (.long q1), .second, .val (.long q2), .second, .val (.int j3), .val (.int pb), .val (.int sc), .val (.int pb2), .val (.int c0), .val (.int c1), .val (.int e0_), .val (.int e1_), .val (.ref b34), .val (.ref b59), .val (.ref b_93), .val (.ref b_104), .val (.int (1 : Int32)), .unset] [(.int es)])) _
    refine XS.istore X132.here hx rfl (hb hby at_319) rfl (l' := #[.val (.int j0), .val (.long q1), .second, .val (.long q2), .second, .val (.int j3), .val (.int pb), .val (.int sc), .val (.int pb2), .val (.int c0), .val (.int c1), .val (.int e0_), .val (.int e1_), .val (.ref b34), .val (.ref b59), .val (.ref b_93), .val (.ref b_104), .val (.int (1 : Int32)), .val (.int es)]) rfl ?_
    show Steps p.tables e below (T132.setTop (mkF m 321 #[.val (.int j0), .val (.long q1), .second, .val (.long q2), .second, .val (.int j3), .val (.int pb), .val (.int sc), .val (.int pb2), .val (.int c0), .val (.int c1), .val (.int e0_), .val (.int e1_), .val (.ref b34), .val (.ref b59), .val (.ref b_93), .val (.ref b_104), .val (.int (1 : Int32)), .val (.int es)] [])) _
    refine XS.iload X132.here hx rfl (hb hby at_321) rfl ?_
    show Steps p.tables e below (T132.setTop (mkF m 323 #[.val (.int j0), .val (.long q1), .second, .val (.long q2), .second, .val (.int j3), .val (.int pb), .val (.int sc), .val (.int pb2), .val (.int c0), .val (.int c1), .val (.int e0_), .val (.int e1_), .val (.ref b34), .val (.ref b59), .val (.ref b_93), .val (.ref b_104), .val (.int (1 : Int32)), .val (.int es)] [(.int (1 : Int32))])) _
    refine XS.ifNo X132.here hx rfl (hb hby at_323) rfl ((if0 _ _).trans (feq (by decide)).1) ?_
    show Steps p.tables e below (T132.setTop (mkF m 326 #[.val (.int j0), .val (.long q1), .second, .val (.long q2), .second, .val (.int j3), .val (.int pb), .val (.int sc), .val (.int pb2), .val (.int c0), .val (.int c1), .val (.int e0_), .val (.int e1_), .val (.ref b34), .val (.ref b59), .val (.ref b_93), .val (.ref b_104), .val (.int (1 : Int32)), .val (.int es)] [])) _
    refine XS.aload X132.here hx rfl (hb hby at_326) rfl rfl ?_
    show Steps p.tables e below (T132.setTop (mkF m 328 #[.val (.int j0), .val (.long q1), .second, .val (.long q2), .second, .val (.int j3), .val (.int pb), .val (.int sc), .val (.int pb2), .val (.int c0), .val (.int c1), .val (.int e0_), .val (.int e1_), .val (.ref b34), .val (.ref b59), .val (.ref b_93), .val (.ref b_104), .val (.int (1 : Int32)), .val (.int es)] [(.ref b_93)])) _
    refine XS.aload X132.here hx rfl (hb hby at_328) rfl rfl ?_
    show Steps p.tables e below (T132.setTop (mkF m 330 #[.val (.int j0), .val (.long q1), .second, .val (.long q2), .second, .val (.int j3), .val (.int pb), .val (.int sc), .val (.int pb2), .val (.int c0), .val (.int c1), .val (.int e0_), .val (.int e1_), .val (.ref b34), .val (.ref b59), .val (.ref b_93), .val (.ref b_104), .val (.int (1 : Int32)), .val (.int es)] [(.ref b_104), (.ref b_93)])) _
    refine st141.trans ?_
    show Steps p.tables e below (T141.setTop (mkF m 333 #[.val (.int j0), .val (.long q1), .second, .val (.long q2), .second, .val (.int j3), .val (.int pb), .val (.int sc), .val (.int pb2), .val (.int c0), .val (.int c1), .val (.int e0_), .val (.int e1_), .val (.ref b34), .val (.ref b59), .val (.ref b_93), .val (.ref b_104), .val (.int (1 : Int32)), .val (.int es)] [(.int (if ([c0, c1] : List Int32) = ([e0_, e1_] : List Int32) then (1 : Int32) else 0))])) _
    refine XS.iload X141.here hx rfl (hb hby at_333) rfl ?_
    show Steps p.tables e below (T141.setTop (mkF m 335 #[.val (.int j0), .val (.long q1), .second, .val (.long q2), .second, .val (.int j3), .val (.int pb), .val (.int sc), .val (.int pb2), .val (.int c0), .val (.int c1), .val (.int e0_), .val (.int e1_), .val (.ref b34), .val (.ref b59), .val (.ref b_93), .val (.ref b_104), .val (.int (1 : Int32)), .val (.int es)] [(.int es), (.int (if ([c0, c1] : List Int32) = ([e0_, e1_] : List Int32) then (1 : Int32) else 0))])) _
    refine XS.icmpNo X141.here hx rfl (hb hby at_335) rfl (teq (own_two h_es)).2 ?_
    show Steps p.tables e below (T141.setTop (mkF m 338 #[.val (.int j0), .val (.long q1), .second, .val (.long q2), .second, .val (.int j3), .val (.int pb), .val (.int sc), .val (.int pb2), .val (.int c0), .val (.int c1), .val (.int e0_), .val (.int e1_), .val (.ref b34), .val (.ref b59), .val (.ref b_93), .val (.ref b_104), .val (.int (1 : Int32)), .val (.int es)] [])) _
    refine XS.iconst X141.here hx rfl (hb hby at_338) ?_
    show Steps p.tables e below (T141.setTop (mkF m 339 #[.val (.int j0), .val (.long q1), .second, .val (.long q2), .second, .val (.int j3), .val (.int pb), .val (.int sc), .val (.int pb2), .val (.int c0), .val (.int c1), .val (.int e0_), .val (.int e1_), .val (.ref b34), .val (.ref b59), .val (.ref b_93), .val (.ref b_104), .val (.int (1 : Int32)), .val (.int es)] [(.int (1 : Int32))])) _
    refine XS.goto X141.here hx rfl (pc0 := 339) (pc' := 343) rfl (hb hby at_339) (by decide) (by decide) ?_
    show Steps p.tables e below (T141.setTop (mkF m 343 #[.val (.int j0), .val (.long q1), .second, .val (.long q2), .second, .val (.int j3), .val (.int pb), .val (.int sc), .val (.int pb2), .val (.int c0), .val (.int c1), .val (.int e0_), .val (.int e1_), .val (.ref b34), .val (.ref b59), .val (.ref b_93), .val (.ref b_104), .val (.int (1 : Int32)), .val (.int es)] [(.int (1 : Int32))])) _
    refine XS.istore X141.here hx rfl (hb hby at_343) rfl (l' := #[.val (.int j0), .val (.long q1), .second, .val (.long q2), .second, .val (.int j3), .val (.int pb), .val (.int sc), .val (.int pb2), .val (.int c0), .val (.int c1), .val (.int e0_), .val (.int e1_), .val (.ref b34), .val (.ref b59), .val (.ref b_93), .val (.ref b_104), .val (.int (1 : Int32)), .val (.int es)]) rfl ?_
    show Steps p.tables e below (T141.setTop (mkF m 345 #[.val (.int j0), .val (.long q1), .second, .val (.long q2), .second, .val (.int j3), .val (.int pb), .val (.int sc), .val (.int pb2), .val (.int c0), .val (.int c1), .val (.int e0_), .val (.int e1_), .val (.ref b34), .val (.ref b59), .val (.ref b_93), .val (.ref b_104), .val (.int (1 : Int32)), .val (.int es)] [])) _
    refine XS.iload X141.here hx rfl (hb hby at_345) rfl ?_
    show Steps p.tables e below (T141.setTop (mkF m 347 #[.val (.int j0), .val (.long q1), .second, .val (.long q2), .second, .val (.int j3), .val (.int pb), .val (.int sc), .val (.int pb2), .val (.int c0), .val (.int c1), .val (.int e0_), .val (.int e1_), .val (.ref b34), .val (.ref b59), .val (.ref b_93), .val (.ref b_104), .val (.int (1 : Int32)), .val (.int es)] [(.int (1 : Int32))])) _
    exact retN X141 hx (t := .boolean) Bd.returns (by simp) (hb hby at_347) hr
  · show Q_own_law Z j0 q1 q2 j3 G1 h0 n0 _ T141.heap _
    rw [hh141]
    exact ⟨rfl, N141⟩
set_option maxRecDepth 65536 in
set_option maxHeartbeats 40000000 in
theorem comes_1 {Post : Tables → Env → Array Value → State → Outcome → State → Prop} (hpost : ∀ tb e args s v u, (limb_1_1.after args s (.returned v) u = true ∧ limb_1_2.after args s (.returned v) u = true ∧ True) → FrameEnd s (.returned v) u (Jvm.fieldLocs frame_1_writes args s ++ Jvm.arrayLocs frame_1_arrays args s ++ Jvm.staticLocs frame_1_statics s) 24 128 → Post tb e args s (.returned v) u) :
    ArmFor flags0 classFile x code maxLocals ret World_1 tables_1 room_1 Calls_1 rest_1 Pre_1 Post := by
  intro l hfl _ _ p e ha hc hk s m args below hf hA hF happ hP
  obtain ⟨hcalls, hrest, hpre⟩ := hP
  obtain ⟨-, -, -, hnamed, -, -, -, hat⟩ := (Spec.applies_iff hf).mp happ
  obtain ⟨hg, hn⟩ := and_e (Cond.before_iff.mp (show (Jvm.Cond.and given_1 narrow_1).before args s = true from hpre))
  obtain ⟨g0, g1⟩ := and_e hg
  obtain ⟨g1, g2⟩ := and_e g1
  obtain ⟨g2, g3⟩ := and_e g2
  obtain ⟨g3, g4⟩ := and_e g3
  obtain ⟨w0, w1, w2, w3, rfl⟩ : ∃ (w0 : Value) (w1 : Value) (w2 : Value) (w3 : Value), args = #[w0, w1, w2, w3] := by
    have hs : args.size = 4 := by simpa [Cond.value, given_1] using g0
    obtain ⟨L⟩ := args
    match L, hs with
    | [w0, w1, w2, w3], _ => exact ⟨w0, w1, w2, w3, rfl⟩
  have hw := fun d (hd : d ∈ tables_1) => atoms_spec (ws := Jvm.Cond.code x code maxLocals ret :: tables_1) hat d (List.mem_cons_of_mem _ hd)
  obtain ⟨hsets, hown0⟩ := atoms_of _ (rest_1_c_eq ▸ (show rest_1_c.before _ s = true from hrest))
  have hfit : Fit s := fun {y c} hc i hi => by
    obtain ⟨ha, rfl⟩ := Array.getElem?_eq_some_iff.mp hc
    have q := List.all_eq_true.mp ((Array.all_eq_true_iff_forall_mem.mp hF) _ (Array.getElem_mem ha)) i (List.mem_range.mpr hi)
    simpa [Array.getElem?_eq_getElem hi] using q
  obtain ⟨i0, ev0⟩ := is_v g1
  obtain rfl : w0 = (.int i0) := Option.some.inj ev0
  obtain ⟨i1, ev1⟩ := isL_v g2
  obtain rfl : w1 = (.long i1) := Option.some.inj ev1
  obtain ⟨i2, ev2⟩ := isL_v g3
  obtain rfl : w2 = (.long i2) := Option.some.inj ev2
  obtain ⟨i3, ev3⟩ := is_v g4
  obtain rfl : w3 = (.int i3) := Option.some.inj ev3
  obtain ⟨G1, eG1⟩ := is_v (Cond.before_iff.mp (hsets _ (List.mem_of_getElem? (i := 1) rfl)))
  have S_CS : Sta s s.heap "java/lang/String" "COMPACT_STRINGS" "Z" (.int G1) := Sta.start eG1 (Or.inl (hsets _ (List.mem_of_getElem? (i := 0) rfl)))
  have nG1 := not_v (Cond.before_iff.mp (hsets _ (List.mem_of_getElem? (i := 2) rfl)))
  have hG1 : ¬ (G1 = (0 : Int32)) := gotF (Cond.eq_ints eG1 (Term.int_eval (0))) nG1
  obtain ⟨n, o, h1, h2, h3, _, L, rfl, ⟨rfl, N⟩, hq⟩ := own_law l s _ hw tables_1 i0 i1 i2 i3 G1 s.heap s.heap.size (Old.start s) S_CS hG1 p e ha hc hk s m _ below hf ((Spec.applies_iff_loose hf).mp happ).1 ⟨rfl, State.Warmed39.refl s, rfl⟩ trivial
  refine ⟨n, _, h1, h2, h3, hpost _ _ _ _ _ _ ⟨Cond.after_iff.mpr rfl, Cond.after_iff.mpr (eq_i res_at (Term.int_eval (1)) rfl), trivial⟩ ⟨hq.1, hq.2.1, (hq.2.2.sift fun y hy => Or.inr (N y hy)).mono (by decide) (by decide)⟩⟩
theorem main_1_1 : Claimed_1_1 := comes_1 fun _ _ _ _ _ _ h hF => ⟨h.1, hF⟩
theorem main_1_2 : Claimed_1_2 := comes_1 fun _ _ _ _ _ _ h hF => ⟨h.2.1, hF⟩
end Jvm.Pilot.@@N@@
namespace Jvm.Pilot.@@N@@
open Jvm Jvm.ClassFile Sem Op Lib Jvm.Free Jvm.Stand Jvm.Pilot.@@N@@.Jvm.D
/-! MADE BY PROGRAM (witnessworld.py) out of the Statement's table words and the real class files: 20 classes; the members and pool entries that the words name. The judged class is class 1, her method 1. -/
namespace start1
open Jvm.ClassFile
def u (s : String) : CpInfo := .utf8 (stringToUtf16 s)
/-- a pool by its gaps: so many unusable entries, then the entry; so many at the end -/
def gap : Nat → List CpInfo → List CpInfo
  | 0, r => r
  | n + 1, r => .unusable :: gap n r
def poolList (es : List (Nat × CpInfo)) (last : Nat) : List CpInfo := es.foldr (fun e r => gap e.1 (e.2 :: r)) (gap last [])
def pool (es : List (Nat × CpInfo)) (last : Nat) : Array CpInfo := ⟨poolList es last⟩
def fileOf (pool : Array CpInfo) (this : Nat) (attrs : Array Attribute := #[]) (ms : Array MethodInfo := #[]) (fl : Nat := 33) (sup : Nat := 0) (ifs : Array Nat := #[]) (fds : Array FieldInfo := #[]) : ClassFile where
  minorVersion := 0
  majorVersion := 65
  constantPool := pool
  accessFlags := fl
  thisClass := this
  superClass := sup
  interfaces := ifs
  fields := fds
  methods := ms
  attributes := attrs
def plain (name : String) (sup : Option ClassId) : Class where
  name := name
  kind := .ordinary
  loader := none
  accessFlags := 33
  super := sup
  interfaces := #[]
  cf := none
  fields := #[]
  methods := #[]
  instanceTypes := #[]
  staticTypes := #[]
  resolved := #[]
  callSites := []
  init := .initialized
  statics := none
  mirror := none

def pool0 : Array CpInfo := pool [(5, u "<init>"), (0, u "()V"), (1, .class_ 10), (1, u "java/lang/Object")] 113

def k0c0 : Code := { maxStack := 0, maxLocals := 1, code := object_method_1_code, exceptionTable := #[], attributes := #[] }
def k0m0 : Method := { name := "<init>", desc := "()V", sig := { parameters := [], returnType := none }, accessFlags := 1, code := some k0c0 }
/-- java/lang/Object -/
def k0 : Class := { plain "java/lang/Object" none with
  accessFlags := 33
  interfaces := #[]
  cf := some (fileOf pool0 8 #[] #[{ accessFlags := 1, nameIndex := 5, descriptorIndex := 6, attributes := #[] }] 33 0 #[] #[])
  fields := #[]
  methods := #[k0m0]
  instanceTypes := #[]
  staticTypes := #[]
  resolved := Array.replicate 124 none
  statics := none }

def pool1 : Array CpInfo := pool [(2, .class_ 4), (1, u "java/lang/Object"), (0, u "<init>"), (0, u "()V"), (0, .class_ 8), (0, u "java/lang/String"), (0, .methodref 7 10), (0, .nameAndType 5 11), (0, u "([C)V"), (0, .methodref 13 14), (0, .class_ 15), (0, .nameAndType 16 17), (0, u "com/example/holdfast/holdfast/ServerRun"), (0, u "of"), (0, u "(Ljava/lang/String;JZ)Lcom/example/holdfast/holdfast/ServerRun;"), (0, .methodref 13 19), (0, .nameAndType 20 21), (0, u "isKnown"), (0, u "()Z"), (0, .methodref 13 23), (0, .nameAndType 24 25), (0, u "unknownBecause"), (0, u "()Ljava/lang/String;"), (0, .methodref 13 27), (0, .nameAndType 28 25), (0, u "id"), (0, .methodref 7 30), (0, .nameAndType 31 32), (0, u "equals"), (0, u "(Ljava/lang/Object;)Z"), (0, .methodref 13 34), (0, .nameAndType 35 36), (0, u "begunByNanos"), (0, u "()J"), (0, .methodref 13 38), (0, .nameAndType 39 21), (0, u "persistsEveryWrite"), (0, .methodref 13 41), (0, .nameAndType 42 43), (0, u "isSameRunAs"), (0, u "(Lcom/example/holdfast/holdfast/ServerRun;)Z"), (0, .class_ 45), (0, u "com/example/holdfast/holdfast/ServerRunOfPinLaw"), (2, u "law"), (0, u "(IJJI)Z")] 3

def k1m0 : Method := { name := "<init>", desc := "()V", sig := { parameters := [], returnType := none }, accessFlags := 2, code := none }
def k1c1 : Code := { maxStack := 6, maxLocals := 19, code := code, exceptionTable := #[], attributes := #[] }
def k1m1 : Method := { name := "law", desc := "(IJJI)Z", sig := { parameters := [.int, .long, .long, .int], returnType := some .boolean }, accessFlags := 9, code := some k1c1 }
/-- com/example/holdfast/holdfast/ServerRunOfPinLaw -/
def k1 : Class := { plain "com/example/holdfast/holdfast/ServerRunOfPinLaw" (some 0) with
  accessFlags := 49
  interfaces := #[]
  cf := some (fileOf pool1 44 #[] #[{ accessFlags := 2, nameIndex := 5, descriptorIndex := 6, attributes := #[] }, { accessFlags := 9, nameIndex := 48, descriptorIndex := 49, attributes := #[] }] 49 2 #[] #[])
  fields := #[]
  methods := #[k1m0, k1m1]
  instanceTypes := #[]
  staticTypes := #[]
  resolved := Array.replicate 53 none
  statics := none }

def pool2 : Array CpInfo := pool [(1, .class_ 2), (0, u "java/io/Serializable"), (0, .class_ 4), (0, u "java/lang/Object")] 2

/-- java/io/Serializable -/
def k2 : Class := { plain "java/io/Serializable" (some 0) with
  accessFlags := 1537
  interfaces := #[]
  cf := some (fileOf pool2 1 #[] #[] 1537 3 #[] #[])
  fields := #[]
  methods := #[]
  instanceTypes := #[]
  staticTypes := #[]
  resolved := Array.replicate 7 none
  statics := none }

def pool3 : Array CpInfo := pool [(1, .class_ 2), (0, u "java/lang/Comparable"), (0, .class_ 4), (0, u "java/lang/Object")] 7

/-- java/lang/Comparable -/
def k3 : Class := { plain "java/lang/Comparable" (some 0) with
  accessFlags := 1537
  interfaces := #[]
  cf := some (fileOf pool3 1 #[] #[] 1537 3 #[] #[])
  fields := #[]
  methods := #[]
  instanceTypes := #[]
  staticTypes := #[]
  resolved := Array.replicate 12 none
  statics := none }

def pool4 : Array CpInfo := pool [(2, .class_ 4), (1, u "java/lang/CharSequence"), (42, .class_ 48), (0, u "java/lang/CharSequence$1CodePointIterator"), (10, .class_ 60), (0, u "java/lang/CharSequence$1CharIterator"), (5, .class_ 67), (0, u "java/lang/Object")] 63

/-- java/lang/CharSequence -/
def k4 : Class := { plain "java/lang/CharSequence" (some 0) with
  accessFlags := 1537
  interfaces := #[]
  cf := some (fileOf pool4 2 #[.nestMembers #[47, 59]] #[] 1537 66 #[] #[])
  fields := #[]
  methods := #[]
  instanceTypes := #[]
  staticTypes := #[]
  resolved := Array.replicate 131 none
  statics := none }

def pool5 : Array CpInfo := pool [(1, .class_ 2), (0, u "java/lang/constant/Constable"), (0, .class_ 4), (0, u "java/lang/Object")] 6

/-- java/lang/constant/Constable -/
def k5 : Class := { plain "java/lang/constant/Constable" (some 0) with
  accessFlags := 1537
  interfaces := #[]
  cf := some (fileOf pool5 1 #[] #[] 1537 3 #[] #[])
  fields := #[]
  methods := #[]
  instanceTypes := #[]
  staticTypes := #[]
  resolved := Array.replicate 11 none
  statics := none }

def pool6 : Array CpInfo := pool [(1, .class_ 2), (0, u "java/lang/constant/ConstantDesc"), (0, .class_ 4), (0, u "java/lang/Object")] 32

/-- java/lang/constant/ConstantDesc -/
def k6 : Class := { plain "java/lang/constant/ConstantDesc" (some 0) with
  accessFlags := 1537
  interfaces := #[]
  cf := some (fileOf pool6 1 #[] #[] 1537 3 #[] #[])
  fields := #[]
  methods := #[]
  instanceTypes := #[]
  staticTypes := #[]
  resolved := Array.replicate 37 none
  statics := none }

def pool7 : Array CpInfo := pool [(1, .methodref 2 3), (0, .class_ 4), (0, .nameAndType 5 6), (0, u "java/lang/Object"), (0, u "<init>"), (0, u "()V"), (2, .fieldref 10 11), (0, .class_ 12), (0, .nameAndType 13 14), (0, u "java/lang/String"), (0, u "value"), (0, u "[B"), (0, .fieldref 10 16), (0, .nameAndType 17 18), (0, u "coder"), (0, u "B"), (2, u "hash"), (0, u "I"), (2, u "hashIsZero"), (0, u "Z"), (0, .methodref 10 28), (0, .nameAndType 5 29), (0, u "([CIILjava/lang/Void;)V"), (8, .fieldref 10 39), (0, .nameAndType 40 26), (0, u "COMPACT_STRINGS"), (1, .class_ 44), (1, u "java/lang/StringUTF16"), (0, u "compress"), (1, .methodref 42 48), (0, .nameAndType 49 50), (0, u "coderFromArrayLen"), (0, u "([BI)B"), (56, .class_ 109), (1, u "java/lang/StringLatin1"), (67, .methodref 42 178), (0, .nameAndType 45 179), (0, u "([CII)[B"), (361, .methodref 107 542), (0, .nameAndType 543 544), (0, u "equals"), (0, u "([B[B)Z"), (28, u "(Ljava/lang/Object;)Z"), (1, .class_ 576), (0, u "java/lang/CharSequence"), (22, u "CASE_INSENSITIVE_ORDER"), (0, u "Ljava/util/Comparator;"), (409, u "([C)V"), (90, u "serialPersistentFields"), (0, u "[Ljava/io/ObjectStreamField;"), (0, .class_ 1104), (0, u "java/lang/String$CaseInsensitiveComparator"), (1, .class_ 1107), (0, u "java/io/Serializable"), (0, .class_ 1109), (0, u "java/lang/Comparable"), (0, .class_ 1111), (0, u "java/lang/constant/Constable"), (0, .class_ 1113), (0, u "java/lang/constant/ConstantDesc"), (2, u "serialVersionUID"), (0, u "J"), (3, u "REPL"), (0, u "C"), (2, u "LATIN1"), (1, u "UTF16")] 323

def k7m0 : Method := { name := "<init>", desc := "()V", sig := { parameters := [], returnType := none }, accessFlags := 1, code := none }
def k7c1 : Code := { maxStack := 5, maxLocals := 2, code := jdk_42_method_3_code, exceptionTable := #[], attributes := #[] }
def k7m1 : Method := { name := "<init>", desc := "([C)V", sig := { parameters := [(.array .char)], returnType := none }, accessFlags := 1, code := some k7c1 }
def k7c2 : Code := { maxStack := 2, maxLocals := 3, code := jdk_42_method_66_code, exceptionTable := #[], attributes := #[] }
def k7m2 : Method := { name := "equals", desc := "(Ljava/lang/Object;)Z", sig := { parameters := [(.object "java/lang/Object")], returnType := some .boolean }, accessFlags := 1, code := some k7c2 }
def k7c3 : Code := { maxStack := 4, maxLocals := 6, code := jdk_42_method_149_code, exceptionTable := #[], attributes := #[] }
def k7m3 : Method := { name := "<init>", desc := "([CIILjava/lang/Void;)V", sig := { parameters := [(.array .char), .int, .int, (.object "java/lang/Void")], returnType := none }, accessFlags := 2, code := some k7c3 }
/-- java/lang/String -/
def k7 : Class := { plain "java/lang/String" (some 0) with
  accessFlags := 49
  interfaces := #[2, 3, 4, 5, 6]
  cf := some (fileOf pool7 10 #[.nestMembers #[1103]] #[{ accessFlags := 1, nameIndex := 5, descriptorIndex := 6, attributes := #[] }, { accessFlags := 1, nameIndex := 5, descriptorIndex := 1010, attributes := #[] }, { accessFlags := 1, nameIndex := 543, descriptorIndex := 573, attributes := #[] }, { accessFlags := 2, nameIndex := 5, descriptorIndex := 29, attributes := #[] }] 49 2 #[1106, 1108, 575, 1110, 1112] #[{ accessFlags := 18, nameIndex := 13, descriptorIndex := 14, attributes := #[] }, { accessFlags := 18, nameIndex := 17, descriptorIndex := 18, attributes := #[] }, { accessFlags := 2, nameIndex := 21, descriptorIndex := 22, attributes := #[] }, { accessFlags := 2, nameIndex := 25, descriptorIndex := 26, attributes := #[] }, { accessFlags := 26, nameIndex := 1116, descriptorIndex := 1117, attributes := #[] }, { accessFlags := 24, nameIndex := 40, descriptorIndex := 26, attributes := #[] }, { accessFlags := 26, nameIndex := 1101, descriptorIndex := 1102, attributes := #[] }, { accessFlags := 26, nameIndex := 1121, descriptorIndex := 1122, attributes := #[] }, { accessFlags := 25, nameIndex := 599, descriptorIndex := 600, attributes := #[] }, { accessFlags := 24, nameIndex := 1125, descriptorIndex := 18, attributes := #[] }, { accessFlags := 24, nameIndex := 1127, descriptorIndex := 18, attributes := #[] }])
  fields := #[{ name := "value", type := (.array .byte), accessFlags := 18, slot := 0, constantValue := 0 }, { name := "coder", type := .byte, accessFlags := 18, slot := 1, constantValue := 0 }, { name := "hash", type := .int, accessFlags := 2, slot := 2, constantValue := 0 }, { name := "hashIsZero", type := .boolean, accessFlags := 2, slot := 3, constantValue := 0 }, { name := "serialVersionUID", type := .long, accessFlags := 26, slot := 0, constantValue := 0 }, { name := "COMPACT_STRINGS", type := .boolean, accessFlags := 24, slot := 1, constantValue := 0 }, { name := "serialPersistentFields", type := (.array (.object "java/io/ObjectStreamField")), accessFlags := 26, slot := 2, constantValue := 0 }, { name := "REPL", type := .char, accessFlags := 26, slot := 3, constantValue := 0 }, { name := "CASE_INSENSITIVE_ORDER", type := (.object "java/util/Comparator"), accessFlags := 25, slot := 4, constantValue := 0 }, { name := "LATIN1", type := .byte, accessFlags := 24, slot := 5, constantValue := 0 }, { name := "UTF16", type := .byte, accessFlags := 24, slot := 6, constantValue := 0 }]
  methods := #[k7m0, k7m1, k7m2, k7m3]
  instanceTypes := #[(.array .byte), .byte, .int, .boolean]
  staticTypes := #[.long, .boolean, (.array (.object "java/io/ObjectStreamField")), .char, (.object "java/util/Comparator"), .byte, .byte]
  resolved := Array.replicate 1451 none
  statics := some 0 }

def pool8 : Array CpInfo := pool [(6, .class_ 8), (1, u "java/lang/Object"), (0, u "<init>"), (0, u "()V"), (1, .class_ 14), (1, u "java/lang/StringUTF16"), (31, u "$assertionsDisabled"), (0, u "Z"), (13, u "HI_BYTE_SHIFT"), (0, u "I"), (2, u "LO_BYTE_SHIFT"), (49, .methodref 12 116), (0, .nameAndType 117 118), (0, u "compress"), (0, u "([CI[BII)I"), (3, u "([CII)[B"), (138, u "coderFromArrayLen"), (0, u "([BI)B"), (106, .class_ 371), (1, u "java/lang/StringUTF16$LinesSpliterator"), (58, u "MAX_LENGTH"), (196, .class_ 628), (0, u "java/lang/StringUTF16$CodePointsSpliterator"), (0, .class_ 630), (0, u "java/lang/StringUTF16$CharsSpliterator")] 4

def k8m0 : Method := { name := "<init>", desc := "()V", sig := { parameters := [], returnType := none }, accessFlags := 0, code := none }
def k8c1 : Code := { maxStack := 2, maxLocals := 2, code := jdk_52_method_15_code, exceptionTable := #[], attributes := #[] }
def k8m1 : Method := { name := "coderFromArrayLen", desc := "([BI)B", sig := { parameters := [(.array .byte), .int], returnType := some .byte }, accessFlags := 8, code := some k8c1 }
def k8c2 : Code := { maxStack := 5, maxLocals := 6, code := jdk_52_method_16_code, exceptionTable := #[], attributes := #[] }
def k8m2 : Method := { name := "compress", desc := "([CII)[B", sig := { parameters := [(.array .char), .int, .int], returnType := some (.array .byte) }, accessFlags := 9, code := some k8c2 }
def k8c3 : Code := { maxStack := 3, maxLocals := 7, code := jdk_52_method_21_code, exceptionTable := #[], attributes := #[] }
def k8m3 : Method := { name := "compress", desc := "([CI[BII)I", sig := { parameters := [(.array .char), .int, (.array .byte), .int, .int], returnType := some .int }, accessFlags := 9, code := some k8c3 }
/-- java/lang/StringUTF16 -/
def k8 : Class := { plain "java/lang/StringUTF16" (some 0) with
  accessFlags := 48
  interfaces := #[]
  cf := some (fileOf pool8 12 #[.nestMembers #[627, 629, 369]] #[{ accessFlags := 0, nameIndex := 9, descriptorIndex := 10, attributes := #[] }, { accessFlags := 8, nameIndex := 261, descriptorIndex := 262, attributes := #[] }, { accessFlags := 9, nameIndex := 117, descriptorIndex := 122, attributes := #[] }, { accessFlags := 9, nameIndex := 117, descriptorIndex := 118, attributes := #[] }] 48 6 #[] #[{ accessFlags := 26, nameIndex := 61, descriptorIndex := 62, attributes := #[] }, { accessFlags := 26, nameIndex := 65, descriptorIndex := 62, attributes := #[] }, { accessFlags := 24, nameIndex := 430, descriptorIndex := 62, attributes := #[] }, { accessFlags := 4120, nameIndex := 46, descriptorIndex := 47, attributes := #[] }])
  fields := #[{ name := "HI_BYTE_SHIFT", type := .int, accessFlags := 26, slot := 0, constantValue := 0 }, { name := "LO_BYTE_SHIFT", type := .int, accessFlags := 26, slot := 1, constantValue := 0 }, { name := "MAX_LENGTH", type := .int, accessFlags := 24, slot := 2, constantValue := 0 }, { name := "$assertionsDisabled", type := .boolean, accessFlags := 4120, slot := 3, constantValue := 0 }]
  methods := #[k8m0, k8m1, k8m2, k8m3]
  instanceTypes := #[]
  staticTypes := #[.int, .int, .int, .boolean]
  resolved := Array.replicate 635 none
  statics := none }

def pool9 : Array CpInfo := pool [(1, .methodref 2 3), (0, .class_ 4), (0, .nameAndType 5 6), (0, u "java/lang/Object"), (0, u "<init>"), (0, u "()V"), (0, .fieldref 8 9), (0, .class_ 10), (0, .nameAndType 11 12), (0, u "com/example/holdfast/holdfast/ServerRun"), (0, u "id"), (0, u "Ljava/lang/String;"), (0, .fieldref 8 14), (0, .nameAndType 15 16), (0, u "begunByNanos"), (0, u "J"), (0, .fieldref 8 18), (0, .nameAndType 19 20), (0, u "persistsEveryWrite"), (0, u "Z"), (0, .fieldref 8 22), (0, .nameAndType 23 12), (0, u "unknownBecause"), (0, .fieldref 8 25), (0, .nameAndType 26 27), (0, u "refusal"), (0, u "Lcom/example/holdfast/holdfast/HoldfastException$Reason;"), (0, .methodref 8 29), (0, .nameAndType 5 30), (0, u "(Ljava/lang/String;JZLjava/lang/String;Lcom/example/holdfast/holdfast/HoldfastException$Reason;)V"), (6, .methodref 8 38), (0, .nameAndType 39 40), (0, u "isKnown"), (0, u "()Z"), (0, .methodref 42 43), (0, .class_ 44), (0, .nameAndType 45 46), (0, u "java/lang/String"), (0, u "equals"), (0, u "(Ljava/lang/Object;)Z"), (2, u "of"), (0, u "(Ljava/lang/String;JZ)Lcom/example/holdfast/holdfast/ServerRun;"), (5, u "()Ljava/lang/String;"), (0, u "()J"), (3, u "isSameRunAs"), (0, u "(Lcom/example/holdfast/holdfast/ServerRun;)Z")] 8

def k9c0 : Code := { maxStack := 3, maxLocals := 7, code := prog_27_method_1_code, exceptionTable := #[], attributes := #[] }
def k9m0 : Method := { name := "<init>", desc := "(Ljava/lang/String;JZLjava/lang/String;Lcom/example/holdfast/holdfast/HoldfastException$Reason;)V", sig := { parameters := [(.object "java/lang/String"), .long, .boolean, (.object "java/lang/String"), (.object "com/example/holdfast/holdfast/HoldfastException$Reason")], returnType := none }, accessFlags := 2, code := some k9c0 }
def k9c1 : Code := { maxStack := 8, maxLocals := 4, code := prog_27_method_2_code, exceptionTable := #[], attributes := #[] }
def k9m1 : Method := { name := "of", desc := "(Ljava/lang/String;JZ)Lcom/example/holdfast/holdfast/ServerRun;", sig := { parameters := [(.object "java/lang/String"), .long, .boolean], returnType := some (.object "com/example/holdfast/holdfast/ServerRun") }, accessFlags := 8, code := some k9c1 }
def k9c2 : Code := { maxStack := 1, maxLocals := 1, code := prog_27_method_5_code, exceptionTable := #[], attributes := #[] }
def k9m2 : Method := { name := "isKnown", desc := "()Z", sig := { parameters := [], returnType := some .boolean }, accessFlags := 0, code := some k9c2 }
def k9c3 : Code := { maxStack := 1, maxLocals := 1, code := prog_27_method_6_code, exceptionTable := #[], attributes := #[] }
def k9m3 : Method := { name := "id", desc := "()Ljava/lang/String;", sig := { parameters := [], returnType := some (.object "java/lang/String") }, accessFlags := 0, code := some k9c3 }
def k9c4 : Code := { maxStack := 2, maxLocals := 1, code := prog_27_method_7_code, exceptionTable := #[], attributes := #[] }
def k9m4 : Method := { name := "begunByNanos", desc := "()J", sig := { parameters := [], returnType := some .long }, accessFlags := 0, code := some k9c4 }
def k9c5 : Code := { maxStack := 1, maxLocals := 1, code := prog_27_method_8_code, exceptionTable := #[], attributes := #[] }
def k9m5 : Method := { name := "persistsEveryWrite", desc := "()Z", sig := { parameters := [], returnType := some .boolean }, accessFlags := 0, code := some k9c5 }
def k9c6 : Code := { maxStack := 1, maxLocals := 1, code := prog_27_method_9_code, exceptionTable := #[], attributes := #[] }
def k9m6 : Method := { name := "unknownBecause", desc := "()Ljava/lang/String;", sig := { parameters := [], returnType := some (.object "java/lang/String") }, accessFlags := 0, code := some k9c6 }
def k9c7 : Code := { maxStack := 2, maxLocals := 3, code := prog_27_method_11_code, exceptionTable := #[], attributes := #[] }
def k9m7 : Method := { name := "isSameRunAs", desc := "(Lcom/example/holdfast/holdfast/ServerRun;)Z", sig := { parameters := [(.object "com/example/holdfast/holdfast/ServerRun")], returnType := some .boolean }, accessFlags := 0, code := some k9c7 }
/-- com/example/holdfast/holdfast/ServerRun -/
def k9 : Class := { plain "com/example/holdfast/holdfast/ServerRun" (some 0) with
  accessFlags := 48
  interfaces := #[]
  cf := some (fileOf pool9 8 #[] #[{ accessFlags := 2, nameIndex := 5, descriptorIndex := 30, attributes := #[] }, { accessFlags := 8, nameIndex := 49, descriptorIndex := 50, attributes := #[] }, { accessFlags := 0, nameIndex := 39, descriptorIndex := 40, attributes := #[] }, { accessFlags := 0, nameIndex := 11, descriptorIndex := 56, attributes := #[] }, { accessFlags := 0, nameIndex := 15, descriptorIndex := 57, attributes := #[] }, { accessFlags := 0, nameIndex := 19, descriptorIndex := 40, attributes := #[] }, { accessFlags := 0, nameIndex := 23, descriptorIndex := 56, attributes := #[] }, { accessFlags := 0, nameIndex := 61, descriptorIndex := 62, attributes := #[] }] 48 2 #[] #[{ accessFlags := 18, nameIndex := 11, descriptorIndex := 12, attributes := #[] }, { accessFlags := 18, nameIndex := 15, descriptorIndex := 16, attributes := #[] }, { accessFlags := 18, nameIndex := 19, descriptorIndex := 20, attributes := #[] }, { accessFlags := 18, nameIndex := 23, descriptorIndex := 12, attributes := #[] }, { accessFlags := 18, nameIndex := 26, descriptorIndex := 27, attributes := #[] }])
  fields := #[{ name := "id", type := (.object "java/lang/String"), accessFlags := 18, slot := 0, constantValue := 0 }, { name := "begunByNanos", type := .long, accessFlags := 18, slot := 1, constantValue := 0 }, { name := "persistsEveryWrite", type := .boolean, accessFlags := 18, slot := 2, constantValue := 0 }, { name := "unknownBecause", type := (.object "java/lang/String"), accessFlags := 18, slot := 3, constantValue := 0 }, { name := "refusal", type := (.object "com/example/holdfast/holdfast/HoldfastException$Reason"), accessFlags := 18, slot := 4, constantValue := 0 }]
  methods := #[k9m0, k9m1, k9m2, k9m3, k9m4, k9m5, k9m6, k9m7]
  instanceTypes := #[(.object "java/lang/String"), .long, .boolean, (.object "java/lang/String"), (.object "com/example/holdfast/holdfast/HoldfastException$Reason")]
  staticTypes := #[]
  resolved := Array.replicate 71 none
  statics := none }

def pool10 : Array CpInfo := pool [(4, .class_ 6), (1, u "java/lang/Object"), (0, u "<init>"), (0, u "()V"), (5, .class_ 16), (1, u "java/lang/StringLatin1"), (104, u "$assertionsDisabled"), (0, u "Z"), (98, .class_ 223), (1, u "java/lang/StringLatin1$LinesSpliterator"), (57, u "equals"), (0, u "([B[B)Z"), (107, .class_ 391), (0, u "java/lang/StringLatin1$CharsSpliterator")] 3

def k10m0 : Method := { name := "<init>", desc := "()V", sig := { parameters := [], returnType := none }, accessFlags := 0, code := none }
def k10c1 : Code := { maxStack := 3, maxLocals := 3, code := jdk_43_method_13_code, exceptionTable := #[], attributes := #[] }
def k10m1 : Method := { name := "equals", desc := "([B[B)Z", sig := { parameters := [(.array .byte), (.array .byte)], returnType := some .boolean }, accessFlags := 9, code := some k10c1 }
/-- java/lang/StringLatin1 -/
def k10 : Class := { plain "java/lang/StringLatin1" (some 0) with
  accessFlags := 48
  interfaces := #[]
  cf := some (fileOf pool10 14 #[.nestMembers #[390, 221]] #[{ accessFlags := 0, nameIndex := 7, descriptorIndex := 8, attributes := #[] }, { accessFlags := 9, nameIndex := 281, descriptorIndex := 282, attributes := #[] }] 48 4 #[] #[{ accessFlags := 4120, nameIndex := 121, descriptorIndex := 122, attributes := #[] }])
  fields := #[{ name := "$assertionsDisabled", type := .boolean, accessFlags := 4120, slot := 0, constantValue := 0 }]
  methods := #[k10m0, k10m1]
  instanceTypes := #[]
  staticTypes := #[.boolean]
  resolved := Array.replicate 395 none
  statics := none }

def pool11 : Array CpInfo := pool [(2, .class_ 4), (1, u "java/lang/Object"), (0, u "<init>"), (0, u "()V"), (17, .class_ 26), (1, u "jdk/internal/util/Preconditions"), (28, .class_ 56), (0, u "jdk/internal/util/Preconditions$4"), (57, .class_ 115), (0, u "jdk/internal/util/Preconditions$1"), (7, u "SIOOBE_FORMATTER"), (0, u "Ljava/util/function/BiFunction;"), (0, .class_ 126), (0, u "jdk/internal/util/Preconditions$2"), (3, u "AIOOBE_FORMATTER"), (0, .class_ 132), (0, u "jdk/internal/util/Preconditions$3"), (3, u "IOOBE_FORMATTER")] 57

def k11m0 : Method := { name := "<init>", desc := "()V", sig := { parameters := [], returnType := none }, accessFlags := 1, code := none }
/-- jdk/internal/util/Preconditions -/
def k11 : Class := { plain "jdk/internal/util/Preconditions" (some 0) with
  accessFlags := 33
  interfaces := #[]
  cf := some (fileOf pool11 24 #[.nestMembers #[55, 131, 125, 114]] #[{ accessFlags := 1, nameIndex := 5, descriptorIndex := 6, attributes := #[] }] 33 2 #[] #[{ accessFlags := 25, nameIndex := 123, descriptorIndex := 124, attributes := #[] }, { accessFlags := 25, nameIndex := 130, descriptorIndex := 124, attributes := #[] }, { accessFlags := 25, nameIndex := 136, descriptorIndex := 124, attributes := #[] }])
  fields := #[{ name := "SIOOBE_FORMATTER", type := (.object "java/util/function/BiFunction"), accessFlags := 25, slot := 0, constantValue := 0 }, { name := "AIOOBE_FORMATTER", type := (.object "java/util/function/BiFunction"), accessFlags := 25, slot := 1, constantValue := 0 }, { name := "IOOBE_FORMATTER", type := (.object "java/util/function/BiFunction"), accessFlags := 25, slot := 2, constantValue := 0 }]
  methods := #[k11m0]
  instanceTypes := #[]
  staticTypes := #[(.object "java/util/function/BiFunction"), (.object "java/util/function/BiFunction"), (.object "java/util/function/BiFunction")]
  resolved := Array.replicate 194 none
  statics := some 1 }

def pool12 : Array CpInfo := pool [(9, u "<init>"), (6, .class_ 18), (1, u "java/lang/Object"), (0, u "()V"), (1, .class_ 23), (1, u "jdk/internal/util/ArraysSupport"), (0, u "LOG2_ARRAY_LONG_INDEX_SCALE"), (0, u "I"), (2, u "U"), (0, u "Ljdk/internal/misc/Unsafe;"), (8, u "BIG_ENDIAN"), (0, u "Z"), (8, u "LOG2_BYTE_BIT_SIZE"), (4, u "LOG2_ARRAY_INT_INDEX_SCALE"), (54, u "JLA"), (0, u "Ljdk/internal/access/JavaLangAccess;"), (11, u "LOG2_ARRAY_BOOLEAN_INDEX_SCALE"), (9, u "LOG2_ARRAY_BYTE_INDEX_SCALE"), (5, u "LOG2_ARRAY_CHAR_INDEX_SCALE"), (5, u "LOG2_ARRAY_SHORT_INDEX_SCALE"), (18, u "LOG2_ARRAY_FLOAT_INDEX_SCALE"), (24, u "LOG2_ARRAY_DOUBLE_INDEX_SCALE"), (89, u "T_BOOLEAN"), (2, u "T_CHAR"), (1, u "T_FLOAT"), (1, u "T_DOUBLE"), (1, u "T_BYTE"), (1, u "T_SHORT"), (1, u "T_INT"), (1, u "T_LONG"), (1, u "SOFT_MAX_ARRAY_LENGTH")] 83

def k12m0 : Method := { name := "<init>", desc := "()V", sig := { parameters := [], returnType := none }, accessFlags := 2, code := none }
/-- jdk/internal/util/ArraysSupport -/
def k12 : Class := { plain "jdk/internal/util/ArraysSupport" (some 0) with
  accessFlags := 33
  interfaces := #[]
  cf := some (fileOf pool12 21 #[] #[{ accessFlags := 2, nameIndex := 9, descriptorIndex := 19, attributes := #[] }] 33 16 #[] #[{ accessFlags := 24, nameIndex := 28, descriptorIndex := 29, attributes := #[] }, { accessFlags := 26, nameIndex := 38, descriptorIndex := 39, attributes := #[] }, { accessFlags := 25, nameIndex := 121, descriptorIndex := 25, attributes := #[] }, { accessFlags := 25, nameIndex := 131, descriptorIndex := 25, attributes := #[] }, { accessFlags := 25, nameIndex := 137, descriptorIndex := 25, attributes := #[] }, { accessFlags := 25, nameIndex := 143, descriptorIndex := 25, attributes := #[] }, { accessFlags := 25, nameIndex := 53, descriptorIndex := 25, attributes := #[] }, { accessFlags := 25, nameIndex := 24, descriptorIndex := 25, attributes := #[] }, { accessFlags := 25, nameIndex := 162, descriptorIndex := 25, attributes := #[] }, { accessFlags := 25, nameIndex := 187, descriptorIndex := 25, attributes := #[] }, { accessFlags := 26, nameIndex := 48, descriptorIndex := 25, attributes := #[] }, { accessFlags := 25, nameIndex := 277, descriptorIndex := 25, attributes := #[] }, { accessFlags := 25, nameIndex := 280, descriptorIndex := 25, attributes := #[] }, { accessFlags := 25, nameIndex := 282, descriptorIndex := 25, attributes := #[] }, { accessFlags := 25, nameIndex := 284, descriptorIndex := 25, attributes := #[] }, { accessFlags := 25, nameIndex := 286, descriptorIndex := 25, attributes := #[] }, { accessFlags := 25, nameIndex := 288, descriptorIndex := 25, attributes := #[] }, { accessFlags := 25, nameIndex := 290, descriptorIndex := 25, attributes := #[] }, { accessFlags := 25, nameIndex := 292, descriptorIndex := 25, attributes := #[] }, { accessFlags := 26, nameIndex := 108, descriptorIndex := 109, attributes := #[] }, { accessFlags := 25, nameIndex := 294, descriptorIndex := 25, attributes := #[] }])
  fields := #[{ name := "U", type := (.object "jdk/internal/misc/Unsafe"), accessFlags := 24, slot := 0, constantValue := 0 }, { name := "BIG_ENDIAN", type := .boolean, accessFlags := 26, slot := 1, constantValue := 0 }, { name := "LOG2_ARRAY_BOOLEAN_INDEX_SCALE", type := .int, accessFlags := 25, slot := 2, constantValue := 0 }, { name := "LOG2_ARRAY_BYTE_INDEX_SCALE", type := .int, accessFlags := 25, slot := 3, constantValue := 0 }, { name := "LOG2_ARRAY_CHAR_INDEX_SCALE", type := .int, accessFlags := 25, slot := 4, constantValue := 0 }, { name := "LOG2_ARRAY_SHORT_INDEX_SCALE", type := .int, accessFlags := 25, slot := 5, constantValue := 0 }, { name := "LOG2_ARRAY_INT_INDEX_SCALE", type := .int, accessFlags := 25, slot := 6, constantValue := 0 }, { name := "LOG2_ARRAY_LONG_INDEX_SCALE", type := .int, accessFlags := 25, slot := 7, constantValue := 0 }, { name := "LOG2_ARRAY_FLOAT_INDEX_SCALE", type := .int, accessFlags := 25, slot := 8, constantValue := 0 }, { name := "LOG2_ARRAY_DOUBLE_INDEX_SCALE", type := .int, accessFlags := 25, slot := 9, constantValue := 0 }, { name := "LOG2_BYTE_BIT_SIZE", type := .int, accessFlags := 26, slot := 10, constantValue := 0 }, { name := "T_BOOLEAN", type := .int, accessFlags := 25, slot := 11, constantValue := 0 }, { name := "T_CHAR", type := .int, accessFlags := 25, slot := 12, constantValue := 0 }, { name := "T_FLOAT", type := .int, accessFlags := 25, slot := 13, constantValue := 0 }, { name := "T_DOUBLE", type := .int, accessFlags := 25, slot := 14, constantValue := 0 }, { name := "T_BYTE", type := .int, accessFlags := 25, slot := 15, constantValue := 0 }, { name := "T_SHORT", type := .int, accessFlags := 25, slot := 16, constantValue := 0 }, { name := "T_INT", type := .int, accessFlags := 25, slot := 17, constantValue := 0 }, { name := "T_LONG", type := .int, accessFlags := 25, slot := 18, constantValue := 0 }, { name := "JLA", type := (.object "jdk/internal/access/JavaLangAccess"), accessFlags := 26, slot := 19, constantValue := 0 }, { name := "SOFT_MAX_ARRAY_LENGTH", type := .int, accessFlags := 25, slot := 20, constantValue := 0 }]
  methods := #[k12m0]
  instanceTypes := #[]
  staticTypes := #[(.object "jdk/internal/misc/Unsafe"), .boolean, .int, .int, .int, .int, .int, .int, .int, .int, .int, .int, .int, .int, .int, .int, .int, .int, .int, (.object "jdk/internal/access/JavaLangAccess"), .int]
  resolved := Array.replicate 378 none
  statics := none }

def pool13 : Array CpInfo := pool [(1, u "java/lang/Cloneable"), (0, .class_ 1), (0, u "java/lang/Object"), (0, .class_ 3)] 3

/-- java/lang/Cloneable -/
def k13 : Class := { plain "java/lang/Cloneable" (some 0) with
  accessFlags := 1537
  interfaces := #[]
  cf := some (fileOf pool13 2 #[] #[] 1537 4 #[] #[])
  fields := #[]
  methods := #[]
  instanceTypes := #[]
  staticTypes := #[]
  resolved := Array.replicate 8 none
  statics := none }

/-- the primitive byte -/
def k14 : Class := { plain "byte" none with kind := .primitive 'B', accessFlags := 0x411 }
/-- [B -/
def k15 : Class := { plain "[B" (some 0) with kind := .array 14 .byte, interfaces := #[13, 2], accessFlags := 1041 }

/-- the primitive char -/
def k16 : Class := { plain "char" none with kind := .primitive 'C', accessFlags := 0x411 }
/-- [C -/
def k17 : Class := { plain "[C" (some 0) with kind := .array 16 .char, interfaces := #[13, 2], accessFlags := 1041 }

/-- the primitive int -/
def k18 : Class := { plain "int" none with kind := .primitive 'I', accessFlags := 0x411 }
/-- [I -/
def k19 : Class := { plain "[I" (some 0) with kind := .array 18 .int, interfaces := #[13, 2], accessFlags := 1041 }

def heap : Heap := #[{ cls := 7, slots := #[.long 0, .int 1, .null, .int 0, .null, .int 0, .int 0], vm := .statics 7 },
  { cls := 11, slots := #[.null, .null, .null], vm := .statics 11 }]
def classes : Array Class := #[k0, k1, k2, k3, k4, k5, k6, k7, k8, k9, k10, k11, k12, k13, k14, k15, k16, k17, k18, k19]
def interned : List (Array UInt16 × Addr) := []
def slotsUsed : Nat := 10
def theMethod : MethodId := ⟨1, 1⟩
def args0 : Array Value := #[.int 5, .long 5, .long 5, .int 5]
def aboutOver (below : List Frame) : State where
  vm := { classes := classes, interned := interned.toArray }
  heap := heap
  slotsUsed := slotsUsed
  threads := #[{ frames := .invoking theMethod args0 :: below }]
def below0 : List Frame := [.native { method := ⟨0, 0⟩, args := #[] }]
def about1 : State := aboutOver below0
def p0 : Program := .bare "" "" ""
def e0 : Env := launch0.env 0 0 0
theorem w_frames : about1.frames = Frame.invoking theMethod args0 :: below0 := rfl
set_option maxRecDepth 65536 in
theorem w_args : argsFit about1.vm theMethod args0 = true := by decide +kernel
set_option maxRecDepth 65536 in
theorem w_heap : heapFits about1 = true := by decide +kernel
set_option maxRecDepth 65536 in
theorem w_runnable : about1.curStatus? = some .runnable := by decide +kernel
set_option maxRecDepth 65536 in
theorem w_alone : about1.alone = true := by decide +kernel
set_option maxRecDepth 65536 in
theorem w_named : about1.methodNamed? x = some theMethod := by decide +kernel
set_option maxRecDepth 65536 in
theorem w_hears : about1.hears theMethod below0 = true := by decide +kernel
set_option maxRecDepth 65536 in
theorem w_ripe : about1.ripe theMethod args0 below0 = true := by decide +kernel
theorem w_running : about1.status = .running := rfl
set_option maxRecDepth 65536 in
theorem w_room : about1.hasRoom e0.platform room_1 = true :=
  launch0.hasRoom_least _ room_1 (by decide +kernel) (by decide +kernel) (by decide +kernel) (by decide +kernel) (by decide +kernel) (by decide +kernel)
theorem allAtoms_all (ts : List Jvm.Cond) (a : Array Jvm.Value) (st : Jvm.State) : (allAtoms ts).before a st = ts.all (fun c => c.before a st) := by
  induction ts with
  | nil => rfl
  | cons c t ih =>
    show (Jvm.Cond.and c (allAtoms t)).before a st = _
    rw [Jvm.Cond.before_and, ih, List.all_cons]
def words1 : List Jvm.Cond := Jvm.Cond.code x code maxLocals ret :: tables_1
/-- a 'code' word, met by the world's own term for the bytes: nothing is compared byte by byte -/
theorem code_word {y : MethodName} {bytes : ByteArray} {mx : Nat} {rt : Option FieldType} {a : Array Value} {s : State} {m : MethodId} {meth : Method} {c : Code} (h1 : s.methodNamed? y = some m) (h2 : s.vm.method? m = some meth) (h3 : meth.code = some c) (h4 : c.code = bytes)
    (h5 : (c.maxLocals == mx && c.exceptionTable.isEmpty && decide (c.maxStack ≤ mostOperands) && decide (meth.sig.returnType = rt) && !meth.locks && decide (parseMethodDescriptor y.desc = some meth.sig)) = true) : (Jvm.Cond.code y bytes mx rt).before a s = true := by
  simp only [Bool.and_eq_true, beq_iff_eq, Bool.not_eq_true', decide_eq_true_eq] at h5
  obtain ⟨⟨⟨⟨⟨g1, g2⟩, g3⟩, g4⟩, g5⟩, g6⟩ := h5
  simp [Cond.before, Cond.holds, Cond.value, h1, h2, h3, h4, g1, g2, g3, g4, g5, g6]
def isCode : Jvm.Cond → Bool
  | .code _ _ _ _ => true
  | _ => false
theorem all_split {L : List Jvm.Cond} {P : Jvm.Cond → Bool} (h1 : L.all (fun c => isCode c || P c) = true) (h2 : ∀ c ∈ L.filter isCode, P c = true) : L.all P = true := by
  refine List.all_eq_true.mpr fun c hc => ?_
  have h := List.all_eq_true.mp h1 c hc
  rcases Bool.eq_false_or_eq_true (isCode c) with hi | hi
  · exact h2 c (List.mem_filter.mpr ⟨hc, hi⟩)
  · simpa [hi] using h
set_option maxRecDepth 65536 in
theorem w_c0 : (Jvm.Cond.code x code maxLocals ret).before args0 about1 = true := code_word (m := ⟨1, 1⟩) (meth := k1m1) (c := k1c1) (by decide +kernel) rfl rfl rfl (by decide +kernel)
set_option maxRecDepth 65536 in
theorem w_c1 : (Jvm.Cond.code ({ cls := "java/lang/String", name := "<init>", desc := "([C)V" } : Jvm.MethodName) jdk_42_method_3_code (2 : Nat) (Option.none : Option Jvm.ClassFile.FieldType)).before args0 about1 = true := code_word (m := ⟨7, 1⟩) (meth := k7m1) (c := k7c1) (by decide +kernel) rfl rfl rfl (by decide +kernel)
set_option maxRecDepth 65536 in
theorem w_c2 : (Jvm.Cond.code ({ cls := "java/lang/String", name := "<init>", desc := "([CIILjava/lang/Void;)V" } : Jvm.MethodName) jdk_42_method_149_code (6 : Nat) (Option.none : Option Jvm.ClassFile.FieldType)).before args0 about1 = true := code_word (m := ⟨7, 3⟩) (meth := k7m3) (c := k7c3) (by decide +kernel) rfl rfl rfl (by decide +kernel)
set_option maxRecDepth 65536 in
theorem w_c3 : (Jvm.Cond.code ({ cls := "java/lang/Object", name := "<init>", desc := "()V" } : Jvm.MethodName) object_method_1_code (1 : Nat) (Option.none : Option Jvm.ClassFile.FieldType)).before args0 about1 = true := code_word (m := ⟨0, 0⟩) (meth := k0m0) (c := k0c0) (by decide +kernel) rfl rfl rfl (by decide +kernel)
set_option maxRecDepth 65536 in
theorem w_c4 : (Jvm.Cond.code ({ cls := "java/lang/StringUTF16", name := "compress", desc := "([CII)[B" } : Jvm.MethodName) jdk_52_method_16_code (6 : Nat) (Option.some (Jvm.ClassFile.FieldType.array Jvm.ClassFile.FieldType.byte))).before args0 about1 = true := code_word (m := ⟨8, 2⟩) (meth := k8m2) (c := k8c2) (by decide +kernel) rfl rfl rfl (by decide +kernel)
set_option maxRecDepth 65536 in
theorem w_c5 : (Jvm.Cond.code ({ cls := "java/lang/StringUTF16", name := "compress", desc := "([CI[BII)I" } : Jvm.MethodName) jdk_52_method_21_code (7 : Nat) (Option.some Jvm.ClassFile.FieldType.int)).before args0 about1 = true := code_word (m := ⟨8, 3⟩) (meth := k8m3) (c := k8c3) (by decide +kernel) rfl rfl rfl (by decide +kernel)
set_option maxRecDepth 65536 in
theorem w_c6 : (Jvm.Cond.code ({ cls := "java/lang/StringUTF16", name := "coderFromArrayLen", desc := "([BI)B" } : Jvm.MethodName) jdk_52_method_15_code (2 : Nat) (Option.some Jvm.ClassFile.FieldType.byte)).before args0 about1 = true := code_word (m := ⟨8, 1⟩) (meth := k8m1) (c := k8c1) (by decide +kernel) rfl rfl rfl (by decide +kernel)
set_option maxRecDepth 65536 in
theorem w_c7 : (Jvm.Cond.code ({ cls := "com/example/holdfast/holdfast/ServerRun", name := "of", desc := "(Ljava/lang/String;JZ)Lcom/example/holdfast/holdfast/ServerRun;" } : Jvm.MethodName) prog_27_method_2_code (4 : Nat) (Option.some (Jvm.ClassFile.FieldType.object "com/example/holdfast/holdfast/ServerRun"))).before args0 about1 = true := code_word (m := ⟨9, 1⟩) (meth := k9m1) (c := k9c1) (by decide +kernel) rfl rfl rfl (by decide +kernel)
set_option maxRecDepth 65536 in
theorem w_c8 : (Jvm.Cond.code ({ cls := "com/example/holdfast/holdfast/ServerRun", name := "<init>", desc := "(Ljava/lang/String;JZLjava/lang/String;Lcom/example/holdfast/holdfast/HoldfastException$Reason;)V" } : Jvm.MethodName) prog_27_method_1_code (7 : Nat) (Option.none : Option Jvm.ClassFile.FieldType)).before args0 about1 = true := code_word (m := ⟨9, 0⟩) (meth := k9m0) (c := k9c0) (by decide +kernel) rfl rfl rfl (by decide +kernel)
set_option maxRecDepth 65536 in
theorem w_c9 : (Jvm.Cond.code ({ cls := "com/example/holdfast/holdfast/ServerRun", name := "isKnown", desc := "()Z" } : Jvm.MethodName) prog_27_method_5_code (1 : Nat) (Option.some Jvm.ClassFile.FieldType.boolean)).before args0 about1 = true := code_word (m := ⟨9, 2⟩) (meth := k9m2) (c := k9c2) (by decide +kernel) rfl rfl rfl (by decide +kernel)
set_option maxRecDepth 65536 in
theorem w_c10 : (Jvm.Cond.code ({ cls := "com/example/holdfast/holdfast/ServerRun", name := "unknownBecause", desc := "()Ljava/lang/String;" } : Jvm.MethodName) prog_27_method_9_code (1 : Nat) (Option.some (Jvm.ClassFile.FieldType.object "java/lang/String"))).before args0 about1 = true := code_word (m := ⟨9, 6⟩) (meth := k9m6) (c := k9c6) (by decide +kernel) rfl rfl rfl (by decide +kernel)
set_option maxRecDepth 65536 in
theorem w_c11 : (Jvm.Cond.code ({ cls := "com/example/holdfast/holdfast/ServerRun", name := "id", desc := "()Ljava/lang/String;" } : Jvm.MethodName) prog_27_method_6_code (1 : Nat) (Option.some (Jvm.ClassFile.FieldType.object "java/lang/String"))).before args0 about1 = true := code_word (m := ⟨9, 3⟩) (meth := k9m3) (c := k9c3) (by decide +kernel) rfl rfl rfl (by decide +kernel)
set_option maxRecDepth 65536 in
theorem w_c12 : (Jvm.Cond.code ({ cls := "java/lang/String", name := "equals", desc := "(Ljava/lang/Object;)Z" } : Jvm.MethodName) jdk_42_method_66_code (3 : Nat) (Option.some Jvm.ClassFile.FieldType.boolean)).before args0 about1 = true := code_word (m := ⟨7, 2⟩) (meth := k7m2) (c := k7c2) (by decide +kernel) rfl rfl rfl (by decide +kernel)
set_option maxRecDepth 65536 in
theorem w_c13 : (Jvm.Cond.code ({ cls := "com/example/holdfast/holdfast/ServerRun", name := "begunByNanos", desc := "()J" } : Jvm.MethodName) prog_27_method_7_code (1 : Nat) (Option.some Jvm.ClassFile.FieldType.long)).before args0 about1 = true := code_word (m := ⟨9, 4⟩) (meth := k9m4) (c := k9c4) (by decide +kernel) rfl rfl rfl (by decide +kernel)
set_option maxRecDepth 65536 in
theorem w_c14 : (Jvm.Cond.code ({ cls := "com/example/holdfast/holdfast/ServerRun", name := "persistsEveryWrite", desc := "()Z" } : Jvm.MethodName) prog_27_method_8_code (1 : Nat) (Option.some Jvm.ClassFile.FieldType.boolean)).before args0 about1 = true := code_word (m := ⟨9, 5⟩) (meth := k9m5) (c := k9c5) (by decide +kernel) rfl rfl rfl (by decide +kernel)
set_option maxRecDepth 65536 in
theorem w_c15 : (Jvm.Cond.code ({ cls := "com/example/holdfast/holdfast/ServerRun", name := "isSameRunAs", desc := "(Lcom/example/holdfast/holdfast/ServerRun;)Z" } : Jvm.MethodName) prog_27_method_11_code (3 : Nat) (Option.some Jvm.ClassFile.FieldType.boolean)).before args0 about1 = true := code_word (m := ⟨9, 7⟩) (meth := k9m7) (c := k9c7) (by decide +kernel) rfl rfl rfl (by decide +kernel)
set_option maxRecDepth 65536 in
theorem w_c16 : (Jvm.Cond.code ({ cls := "java/lang/StringLatin1", name := "equals", desc := "([B[B)Z" } : Jvm.MethodName) jdk_43_method_13_code (3 : Nat) (Option.some Jvm.ClassFile.FieldType.boolean)).before args0 about1 = true := code_word (m := ⟨10, 1⟩) (meth := k10m1) (c := k10c1) (by decide +kernel) rfl rfl rfl (by decide +kernel)
def codes1 : List Jvm.Cond := [Jvm.Cond.code x code maxLocals ret, Jvm.Cond.code ({ cls := "java/lang/String", name := "<init>", desc := "([C)V" } : Jvm.MethodName) jdk_42_method_3_code (2 : Nat) (Option.none : Option Jvm.ClassFile.FieldType), Jvm.Cond.code ({ cls := "java/lang/String", name := "<init>", desc := "([CIILjava/lang/Void;)V" } : Jvm.MethodName) jdk_42_method_149_code (6 : Nat) (Option.none : Option Jvm.ClassFile.FieldType), Jvm.Cond.code ({ cls := "java/lang/Object", name := "<init>", desc := "()V" } : Jvm.MethodName) object_method_1_code (1 : Nat) (Option.none : Option Jvm.ClassFile.FieldType), Jvm.Cond.code ({ cls := "java/lang/StringUTF16", name := "compress", desc := "([CII)[B" } : Jvm.MethodName) jdk_52_method_16_code (6 : Nat) (Option.some (Jvm.ClassFile.FieldType.array Jvm.ClassFile.FieldType.byte)), Jvm.Cond.code ({ cls := "java/lang/StringUTF16", name := "compress", desc := "([CI[BII)I" } : Jvm.MethodName) jdk_52_method_21_code (7 : Nat) (Option.some Jvm.ClassFile.FieldType.int), Jvm.Cond.code ({ cls := "java/lang/StringUTF16", name := "coderFromArrayLen", desc := "([BI)B" } : Jvm.MethodName) jdk_52_method_15_code (2 : Nat) (Option.some Jvm.ClassFile.FieldType.byte), Jvm.Cond.code ({ cls := "com/example/holdfast/holdfast/ServerRun", name := "of", desc := "(Ljava/lang/String;JZ)Lcom/example/holdfast/holdfast/ServerRun;" } : Jvm.MethodName) prog_27_method_2_code (4 : Nat) (Option.some (Jvm.ClassFile.FieldType.object "com/example/holdfast/holdfast/ServerRun")), Jvm.Cond.code ({ cls := "com/example/holdfast/holdfast/ServerRun", name := "<init>", desc := "(Ljava/lang/String;JZLjava/lang/String;Lcom/example/holdfast/holdfast/HoldfastException$Reason;)V" } : Jvm.MethodName) prog_27_method_1_code (7 : Nat) (Option.none : Option Jvm.ClassFile.FieldType), Jvm.Cond.code ({ cls := "com/example/holdfast/holdfast/ServerRun", name := "isKnown", desc := "()Z" } : Jvm.MethodName) prog_27_method_5_code (1 : Nat) (Option.some Jvm.ClassFile.FieldType.boolean), Jvm.Cond.code ({ cls := "com/example/holdfast/holdfast/ServerRun", name := "unknownBecause", desc := "()Ljava/lang/String;" } : Jvm.MethodName) prog_27_method_9_code (1 : Nat) (Option.some (Jvm.ClassFile.FieldType.object "java/lang/String")), Jvm.Cond.code ({ cls := "com/example/holdfast/holdfast/ServerRun", name := "id", desc := "()Ljava/lang/String;" } : Jvm.MethodName) prog_27_method_6_code (1 : Nat) (Option.some (Jvm.ClassFile.FieldType.object "java/lang/String")), Jvm.Cond.code ({ cls := "java/lang/String", name := "equals", desc := "(Ljava/lang/Object;)Z" } : Jvm.MethodName) jdk_42_method_66_code (3 : Nat) (Option.some Jvm.ClassFile.FieldType.boolean), Jvm.Cond.code ({ cls := "com/example/holdfast/holdfast/ServerRun", name := "begunByNanos", desc := "()J" } : Jvm.MethodName) prog_27_method_7_code (1 : Nat) (Option.some Jvm.ClassFile.FieldType.long), Jvm.Cond.code ({ cls := "com/example/holdfast/holdfast/ServerRun", name := "persistsEveryWrite", desc := "()Z" } : Jvm.MethodName) prog_27_method_8_code (1 : Nat) (Option.some Jvm.ClassFile.FieldType.boolean), Jvm.Cond.code ({ cls := "com/example/holdfast/holdfast/ServerRun", name := "isSameRunAs", desc := "(Lcom/example/holdfast/holdfast/ServerRun;)Z" } : Jvm.MethodName) prog_27_method_11_code (3 : Nat) (Option.some Jvm.ClassFile.FieldType.boolean), Jvm.Cond.code ({ cls := "java/lang/StringLatin1", name := "equals", desc := "([B[B)Z" } : Jvm.MethodName) jdk_43_method_13_code (3 : Nat) (Option.some Jvm.ClassFile.FieldType.boolean)]
set_option maxRecDepth 65536 in
theorem codes_eq : words1.filter isCode = codes1 := rfl
theorem w_codes : ∀ c ∈ words1.filter isCode, c.before args0 about1 = true := by
  rw [codes_eq]
  intro c hc
  simp only [codes1, List.mem_cons, List.not_mem_nil, or_false] at hc
  rcases hc with rfl | rfl | rfl | rfl | rfl | rfl | rfl | rfl | rfl | rfl | rfl | rfl | rfl | rfl | rfl | rfl | rfl
  · exact w_c0
  · exact w_c1
  · exact w_c2
  · exact w_c3
  · exact w_c4
  · exact w_c5
  · exact w_c6
  · exact w_c7
  · exact w_c8
  · exact w_c9
  · exact w_c10
  · exact w_c11
  · exact w_c12
  · exact w_c13
  · exact w_c14
  · exact w_c15
  · exact w_c16
set_option maxRecDepth 65536 in
theorem w_t1 : (words1.take 24).all (fun c => isCode c || c.before args0 about1) = true := by decide +kernel
set_option maxRecDepth 65536 in
theorem w_t2 : ((words1.drop 24).take 24).all (fun c => isCode c || c.before args0 about1) = true := by decide +kernel
set_option maxRecDepth 65536 in
theorem w_t3 : (((words1.drop 24).drop 24).take 24).all (fun c => isCode c || c.before args0 about1) = true := by decide +kernel
set_option maxRecDepth 65536 in
theorem w_t4 : (((words1.drop 24).drop 24).drop 24).all (fun c => isCode c || c.before args0 about1) = true := by decide +kernel
theorem w_tables : (allAtoms (Jvm.Cond.code x code maxLocals ret :: tables_1)).before args0 about1 = true := by
  rw [allAtoms_all]
  show words1.all (fun c => c.before args0 about1) = true
  refine all_split ?_ w_codes
  rw [← List.take_append_drop 24 words1, List.all_append, w_t1, ← List.take_append_drop 24 (words1.drop 24), List.all_append, w_t2, ← List.take_append_drop 24 ((words1.drop 24).drop 24), List.all_append, w_t3, w_t4]
  rfl
set_option maxRecDepth 65536 in
theorem w_rest : rest_1_c.before args0 about1 = true := by decide +kernel
set_option maxRecDepth 65536 in
theorem w_case : (Jvm.Cond.and given_1 narrow_1).before args0 about1 = true := by decide +kernel
theorem w_applies : (headSpec (Jvm.Cond.code x code maxLocals ret :: tables_1) room_1).applies x e0.platform about1 = true :=
  (Spec.applies_iff w_frames).mpr ⟨w_running, w_runnable, w_alone, w_named, w_hears, w_ripe, w_room, w_tables⟩
theorem atStart : AtStart classFile x code maxLocals ret World_1 tables_1 room_1 Calls_1 rest_1 Pre_1 launch0 p0 e0 about1 theMethod args0 below0 :=
  ⟨lists_1, trivial, launch0.admits_env _ _ _, launch0.least_env, fairChoices_fair.cas, fairChoices_fair.clock, w_frames, w_args, w_heap, w_applies, trivial, w_rest, w_case⟩
end start1
theorem witness_1 : WitnessClaimed_1 := ⟨start1.p0, start1.e0, start1.about1, start1.theMethod, start1.args0, start1.below0, start1.atStart⟩
end Jvm.Pilot.@@N@@

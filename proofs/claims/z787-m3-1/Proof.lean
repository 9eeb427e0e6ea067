import JvmDerived
import JvmDerived.Pilot.@@N@@Statement
import JvmDerived.Pilot.@@N@@Code
set_option linter.unusedVariables false
set_option linter.unusedSimpArgs false
@@BLOCK:NumsL.lean.txt@@
/- laws to paste: Road.backV (cut by pick.py; bodies as the Statement names them) -/
namespace Jvm.Pilot.@@N@@
namespace StrChars
open Jvm Sem ClassFile Op Lib Jvm.Stand Jvm.Free.XT Jvm.Free.ALB Jvm.Free.JM Jvm.Free
open Jvm.Lib.Cold (StaticIs)
/-- a char array whose places are chars -/
def Ch (a : Addr) (A : Cell) (U : State) : Prop := Arr .char a A U ∧ Typed .char A
theorem Ch.mv {a : Addr} {A : Cell} {U U' : State} (h : Ch a A U) (hal : U.vm.Alike U'.vm) (hh : U'.heap = U.heap) : Ch a A U' := ⟨h.1.mv hal hh, h.2⟩
theorem Ch.keep {a : Addr} {A : Cell} {U U' : State} (h : Ch a A U) (hal : U.vm.Alike U'.vm) (hk : U'.heap[a]? = some A) : Ch a A U' := ⟨h.1.keep hal hk, h.2⟩
/-- what place i of a char[]'s cell holds -/
def cv (A : Cell) (i : Nat) : Int32 := match A.slots[i]? with | some (.int x) => x | _ => 0
theorem Ch.get {a : Addr} {A : Cell} {U : State} (h : Ch a A U) {i : Nat} (hi : i < A.slots.size) : A.slots[i]? = some (.int (cv A i)) := by
  have e := Array.getElem?_eq_getElem hi
  have f := h.2 i _ e
  unfold cv; rw [e]
  generalize A.slots[i] = v at f
  cases v <;> simp [fits] at f ⊢
/-- the byte that i2b leaves of a char -/
def lo8 (x : Int32) : Int32 := x.toInt8.toInt32
theorem fits_lo8 (y : Int32) : fits .byte (.int (lo8 y)) = true := by
  have h1 := y.toInt8.le_toInt
  have h2 := y.toInt8.toInt_lt
  simp only [lo8, fits, Bool.and_eq_true, decide_eq_true_eq, Int32.le_iff_toInt_le, Int8.toInt_toInt32, show (-128 : Int32).toInt = -128 from by decide, show (127 : Int32).toInt = 127 from by decide]
  omega
/-- A' is A but that each place j of lo .. hi - 1 holds f j -/
def Laid (A A' : Cell) (lo hi : Nat) (f : Nat → Value) : Prop := A'.cls = A.cls ∧ A'.vm = A.vm ∧ A'.slots.size = A.slots.size ∧ ∀ i, A'.slots[i]? = if lo ≤ i ∧ i < hi then some (f i) else A.slots[i]?
theorem Laid.zero (A : Cell) (lo : Nat) (f : Nat → Value) : Laid A A lo (lo + 0) f := ⟨rfl, rfl, rfl, fun i => by rw [if_neg (by omega)]⟩
theorem Laid.step {A Ak : Cell} {lo k : Nat} {f : Nat → Value} {v : Value} (h : Laid A Ak lo k f) (hlo : lo ≤ k) (hk : k < Ak.slots.size) (hv : v = f k) : Laid A (Ak.setSlot k v) lo (k + 1) f := by
  refine ⟨h.1, h.2.1, by simpa [Cell.setSlot] using h.2.2.1, fun i => ?_⟩
  by_cases e : k = i
  · subst e; rw [Cell.slots_setSlot_self v hk, if_pos (by omega), hv]
  · rw [Cell.slots_setSlot_ne v e, h.2.2.2 i]
    by_cases q : lo ≤ i ∧ i < k
    · rw [if_pos q, if_pos (by omega)]
    · rw [if_neg q, if_neg (by omega)]
def U16 : String := "java/lang/StringUTF16"
namespace Cmp5
def yN : MethodName := ⟨"java/lang/StringUTF16", "compress", "([CI[BII)I"⟩
abbrev yB : ByteArray := jdk_52_method_21_code
theorem d0 : decode yB 0 = .ok (.iconst 0, 1) := by decide +kernel
theorem d1 : decode yB 1 = .ok (.istore 5, 2) := by decide +kernel
theorem d3 : decode yB 3 = .ok (.iload 5, 2) := by decide +kernel
theorem d5 : decode yB 5 = .ok (.iload 4, 2) := by decide +kernel
theorem d7 : decode yB 7 = .ok (.if_icmp (.ge) 37, 3) := by decide +kernel
theorem d10 : decode yB 10 = .ok (.aload_n 0, 1) := by decide +kernel
theorem d11 : decode yB 11 = .ok (.iload_n 1, 1) := by decide +kernel
theorem d12 : decode yB 12 = .ok (.caload, 1) := by decide +kernel
theorem d13 : decode yB 13 = .ok (.istore 6, 2) := by decide +kernel
theorem d15 : decode yB 15 = .ok (.iload 6, 2) := by decide +kernel
theorem d17 : decode yB 17 = .ok (.sipush 255, 3) := by decide +kernel
theorem d20 : decode yB 20 = .ok (.if_icmp (.le) 6, 3) := by decide +kernel
theorem d26 : decode yB 26 = .ok (.aload_n 2, 1) := by decide +kernel
theorem d27 : decode yB 27 = .ok (.iload_n 3, 1) := by decide +kernel
theorem d28 : decode yB 28 = .ok (.iload 6, 2) := by decide +kernel
theorem d30 : decode yB 30 = .ok (.i2b, 1) := by decide +kernel
theorem d31 : decode yB 31 = .ok (.bastore, 1) := by decide +kernel
theorem d32 : decode yB 32 = .ok (.iinc 1 1, 3) := by decide +kernel
theorem d35 : decode yB 35 = .ok (.iinc 3 1, 3) := by decide +kernel
theorem d38 : decode yB 38 = .ok (.iinc 5 1, 3) := by decide +kernel
theorem d41 : decode yB 41 = .ok (.goto (-38), 3) := by decide +kernel
theorem d44 : decode yB 44 = .ok (.iload 4, 2) := by decide +kernel
theorem d46 : decode yB 46 = .ok (.ireturn, 1) := by decide +kernel
def site : List Cond := []
def tab : Cond := tabOf yN yB 7 (some .int) site
def P (b : Addr) (A : Cell) (d : Addr) (B : Cell) (o q len : Nat) (args : Array Value) (s : State) : Prop := args = #[.ref b, .int (Int32.ofNat o), .ref d, .int (Int32.ofNat q), .int (Int32.ofNat len)] ∧ Ch b A s ∧ Arr .byte d B s ∧ b ≠ d ∧ o + len ≤ A.slots.size ∧ q + len ≤ B.slots.size ∧ ∀ i, i < len → ¬ 255 < cv A (o + i)
def E (b : Addr) (A : Cell) (d : Addr) (B : Cell) (o q len : Nat) (r : Option Value) (s u : State) : Prop := r = some (.int (Int32.ofNat len)) ∧ ∃ B', Put d B' s u ∧ Laid B B' q (q + len) (fun j => Value.int (lo8 (cv A (o + (j - q)))))
/-- no char of the range above 255: len; the places written hold each char's low byte -/
theorem law (l : Launch) (b : Addr) (A : Cell) (d : Addr) (B : Cell) (o q len : Nat) : Law l yN 5 5 0 0 yB 7 (some .int) site (P b A d B o q len) (E b A d B o q len) (copyLocs d q len) 0 0 := by
  refine Law.of_walk (plainFor_of_name (by decide +kernel)) (by decide +kernel) (by decide +kernel) (by decide) (fun _ _ h => by rw [h.1]; rfl) (fun _ U U' hal hh h => ⟨h.1, h.2.1.mv hal hh, h.2.2.1.mv hal hh, h.2.2.2⟩) (fun r U U' V V' h1 hal h2 h => ⟨h.1, h.2.elim fun B' q => ⟨B', q.1.mv h1 h2, q.2⟩⟩) ?_
  intro p e s m args below meth c s₁ X0 hexec hbytes hml hret hlk hnm hown hh0 W hP
  obtain ⟨rfl, hA, hB, hne, l1, l2, hp⟩ := hP
  have c1 : Steps p.tables e below (s₁.setTop (entryFrame m #[.ref b, .int (Int32.ofNat o), .ref d, .int (Int32.ofNat q), .int (Int32.ofNat len)] 7)) (s₁.setTop (mkF m 0 #[.val (.ref b), .val (.int (Int32.ofNat o)), .val (.ref d), .val (.int (Int32.ofNat q)), .val (.int (Int32.ofNat len)), .unset, .unset] [])) := entry rfl
  have hA0 := hA.1.mv X0.warmed.alike hh0
  have hB0 := hB.mv X0.warmed.alike hh0
  have a31 := hA.1.2.2.2
  have c2 : Steps p.tables e below (s₁.setTop (entryFrame m #[.ref b, .int (Int32.ofNat o), .ref d, .int (Int32.ofNat q), .int (Int32.ofNat len)] 7)) (s₁.setTop (mkF m 3 #[.val (.ref b), .val (.int (Int32.ofNat o)), .val (.ref d), .val (.int (Int32.ofNat q)), .val (.int (Int32.ofNat len)), .val (.int 0), .unset] [])) := c1.trans (by
    refine iconstV X0.here hexec rfl 0 (hb hbytes d0) (by decide) ?_
    refine XS.istore X0.here hexec rfl (hb hbytes d1) rfl rfl ?_
    exact Steps.refl _)
  have loop : ∀ (r i : Nat), i + r = len → ∀ (z : Slot), (z = .unset ∨ ∃ w, z = .val w ∧ w.category = 1) → ∀ (Tl : State) (Bk : Cell), Stand p l e { frames := 0, locals := 0, cells := 0, slots := 0 } s m #[.ref b, .int (Int32.ofNat o), .ref d, .int (Int32.ofNat q), .int (Int32.ofNat len)] below meth c Tl ([] ++ copyLocs d q i) 0 0 → Put d Bk s₁ Tl → Laid B Bk q (q + i) (fun j => Value.int (lo8 (cv A (o + (j - q))))) →
      Steps p.tables e below (s₁.setTop (entryFrame m #[.ref b, .int (Int32.ofNat o), .ref d, .int (Int32.ofNat q), .int (Int32.ofNat len)] 7)) (Tl.setTop (mkF m 3 #[.val (.ref b), .val (.int (Int32.ofNat (o + i))), .val (.ref d), .val (.int (Int32.ofNat (q + i))), .val (.int (Int32.ofNat len)), .val (.int (Int32.ofNat i)), z] [])) → ∃ (T' : State) (B' : Cell) (z' : Slot), Stand p l e { frames := 0, locals := 0, cells := 0, slots := 0 } s m #[.ref b, .int (Int32.ofNat o), .ref d, .int (Int32.ofNat q), .int (Int32.ofNat len)] below meth c T' ([] ++ copyLocs d q len) 0 0 ∧ Put d B' s₁ T' ∧ Laid B B' q (q + len) (fun j => Value.int (lo8 (cv A (o + (j - q))))) ∧
      Steps p.tables e below (s₁.setTop (entryFrame m #[.ref b, .int (Int32.ofNat o), .ref d, .int (Int32.ofNat q), .int (Int32.ofNat len)] 7)) (T'.setTop (mkF m 3 #[.val (.ref b), .val (.int (Int32.ofNat (o + len))), .val (.ref d), .val (.int (Int32.ofNat (q + len))), .val (.int (Int32.ofNat len)), .val (.int (Int32.ofNat len)), z'] [])) := by
    intro r
    induction r with
    | zero =>
      intro i hi z hz Tl Bk Xl pl fl cl
      have hil : i = len := by omega
      rw [hil] at Xl fl cl
      exact ⟨Tl, Bk, z, Xl, pl, fl, cl⟩
    | succ r ih =>
      intro i hi z hz Tl Bk Xl pl fl cl
      have all := X0.warmed.alike.symm.trans Xl.warmed.alike
      have hAl := hA0.keep all (pl.other hne hA0.1)
      have hBk := hB0.like all pl.1 fl.1 fl.2.1 fl.2.2.1
      have hlt : q + i < Bk.slots.size := by rw [fl.2.2.1]; omega
      have c3 : Steps p.tables e below (s₁.setTop (entryFrame m #[.ref b, .int (Int32.ofNat o), .ref d, .int (Int32.ofNat q), .int (Int32.ofNat len)] 7)) (Tl.setTop (mkF m 12 #[.val (.ref b), .val (.int (Int32.ofNat (o + i))), .val (.ref d), .val (.int (Int32.ofNat (q + i))), .val (.int (Int32.ofNat len)), .val (.int (Int32.ofNat i)), z] [.int (Int32.ofNat (o + i)), .ref b])) := cl.trans (by
        refine XS.iload Xl.here hexec rfl (hb hbytes d3) rfl ?_
        refine XS.iload Xl.here hexec rfl (hb hbytes d5) rfl ?_
        refine XS.icmpNo Xl.here hexec rfl (hb hbytes d7) rfl (ii_ge_f (lt32 (by omega) (by omega))) ?_
        refine XS.aloadN Xl.here hexec rfl (hb hbytes d10) rfl rfl ?_
        refine XS.iloadN Xl.here hexec rfl (hb hbytes d11) rfl ?_
        exact Steps.refl _)
      have c4 : Steps p.tables e below (s₁.setTop (entryFrame m #[.ref b, .int (Int32.ofNat o), .ref d, .int (Int32.ofNat q), .int (Int32.ofNat len)] 7)) (Tl.setTop (mkF m 13 #[.val (.ref b), .val (.int (Int32.ofNat (o + i))), .val (.ref d), .val (.int (Int32.ofNat (q + i))), .val (.int (Int32.ofNat len)), .val (.int (Int32.ofNat i)), z] [.int (cv A (o + i))])) := c3.trans (by
        refine Xl.aget hexec hAl rfl (hA.get (i := o + i) (by omega)) rfl rfl (hb hbytes d12) ?_
        exact Steps.refl _)
      have c5 : Steps p.tables e below (s₁.setTop (entryFrame m #[.ref b, .int (Int32.ofNat o), .ref d, .int (Int32.ofNat q), .int (Int32.ofNat len)] 7)) (Tl.setTop (mkF m 15 #[.val (.ref b), .val (.int (Int32.ofNat (o + i))), .val (.ref d), .val (.int (Int32.ofNat (q + i))), .val (.int (Int32.ofNat len)), .val (.int (Int32.ofNat i)), .val (.int (cv A (o + i)))] [])) := c4.trans (by
        refine XS.istoreS Xl.here hexec rfl (hb hbytes d13) rfl rfl hz ?_
        exact Steps.refl _)
      have c6 : Steps p.tables e below (s₁.setTop (entryFrame m #[.ref b, .int (Int32.ofNat o), .ref d, .int (Int32.ofNat q), .int (Int32.ofNat len)] 7)) (Tl.setTop (mkF m 31 #[.val (.ref b), .val (.int (Int32.ofNat (o + i))), .val (.ref d), .val (.int (Int32.ofNat (q + i))), .val (.int (Int32.ofNat len)), .val (.int (Int32.ofNat i)), .val (.int (cv A (o + i)))] [.int (lo8 (cv A (o + i))), .int (Int32.ofNat (q + i)), .ref d])) := c5.trans (by
        refine XS.iload Xl.here hexec rfl (hb hbytes d15) rfl ?_
        refine sipushV Xl.here hexec rfl 255 (hb hbytes d17) (by decide) ?_
        refine XS.icmpYes Xl.here hexec rfl (pc0 := 20) rfl (hb hbytes d20) rfl (ii_le_t (hp i (by omega))) (by decide) rfl ?_
        refine XS.aloadN Xl.here hexec rfl (hb hbytes d26) rfl rfl ?_
        refine XS.iloadN Xl.here hexec rfl (hb hbytes d27) rfl ?_
        refine XS.iload Xl.here hexec rfl (hb hbytes d28) rfl ?_
        refine i2b Xl.here hexec rfl (hb hbytes d30) rfl ?_
        exact Steps.refl _)
      obtain ⟨T7, X7, p7, st7⟩ := Xl.aput hexec hBk rfl hlt rfl (fits_lo8 (cv A (o + i))) (g := (mkF m 31 #[.val (.ref b), .val (.int (Int32.ofNat (o + i))), .val (.ref d), .val (.int (Int32.ofNat (q + i))), .val (.int (Int32.ofNat len)), .val (.int (Int32.ofNat i)), .val (.int (cv A (o + i)))] [.int (lo8 (cv A (o + i))), .int (Int32.ofNat (q + i)), .ref d])) rfl (rest := []) rfl (hb hbytes d31)
      have c8 : Steps p.tables e below (s₁.setTop (entryFrame m #[.ref b, .int (Int32.ofNat o), .ref d, .int (Int32.ofNat q), .int (Int32.ofNat len)] 7)) (T7.setTop (mkF m 32 #[.val (.ref b), .val (.int (Int32.ofNat (o + i))), .val (.ref d), .val (.int (Int32.ofNat (q + i))), .val (.int (Int32.ofNat len)), .val (.int (Int32.ofNat i)), .val (.int (cv A (o + i)))] [])) := c6.trans (st7 _ (Steps.refl _))
      have c9 : Steps p.tables e below (s₁.setTop (entryFrame m #[.ref b, .int (Int32.ofNat o), .ref d, .int (Int32.ofNat q), .int (Int32.ofNat len)] 7)) (T7.setTop (mkF m 3 #[.val (.ref b), .val (.int (Int32.ofNat (o + i) + 1)), .val (.ref d), .val (.int (Int32.ofNat (q + i) + 1)), .val (.int (Int32.ofNat len)), .val (.int (Int32.ofNat i + 1)), .val (.int (cv A (o + i)))] [])) := c8.trans (by
        refine iincV X7.here hexec rfl 1 (hb hbytes d32) (by decide) rfl rfl ?_
        refine iincV X7.here hexec rfl 1 (hb hbytes d35) (by decide) rfl rfl ?_
        refine iincV X7.here hexec rfl 1 (hb hbytes d38) (by decide) rfl rfl ?_
        refine XS.goto X7.here hexec rfl (pc0 := 41) rfl (hb hbytes d41) (by decide) rfl ?_
        exact Steps.refl _)
      have c10 : Steps p.tables e below (s₁.setTop (entryFrame m #[.ref b, .int (Int32.ofNat o), .ref d, .int (Int32.ofNat q), .int (Int32.ofNat len)] 7)) (T7.setTop (mkF m 3 #[.val (.ref b), .val (.int (Int32.ofNat (o + (i + 1)))), .val (.ref d), .val (.int (Int32.ofNat (q + (i + 1)))), .val (.int (Int32.ofNat len)), .val (.int (Int32.ofNat (i + 1))), .val (.int (cv A (o + i)))] [])) := by
        have := c9
        rw [succ32, succ32, succ32] at this
        exact this
      exact ih (i + 1) (by omega) _ (Or.inr ⟨_, rfl, rfl⟩) T7 _ (by rw [copyLocs_step, ← List.append_assoc]; exact X7) (pl.trans p7) (fl.step (by omega) hlt (by simp)) c10
  obtain ⟨T9, B9, z9, X9, p9, f9, g9⟩ := loop len 0 (by omega) .unset (Or.inl rfl) s₁ B (by simpa [copyLocs] using X0) ⟨hB0.1, fun _ _ => rfl, rfl⟩ (Laid.zero _ _ _) c2
  have c11 : Steps p.tables e below (s₁.setTop (entryFrame m #[.ref b, .int (Int32.ofNat o), .ref d, .int (Int32.ofNat q), .int (Int32.ofNat len)] 7)) (T9.setTop (mkF m 46 #[.val (.ref b), .val (.int (Int32.ofNat (o + len))), .val (.ref d), .val (.int (Int32.ofNat (q + len))), .val (.int (Int32.ofNat len)), .val (.int (Int32.ofNat len)), z9] [.int (Int32.ofNat len)])) := g9.trans (by
    refine XS.iload X9.here hexec rfl (hb hbytes d3) rfl ?_
    refine XS.iload X9.here hexec rfl (hb hbytes d5) rfl ?_
    refine XS.icmpYes X9.here hexec rfl (pc0 := 7) rfl (hb hbytes d7) rfl (ii_ge_t (nlt32 (by omega) (Nat.le_refl _))) (by decide) rfl ?_
    refine XS.iload X9.here hexec rfl (hb hbytes d44) rfl ?_
    exact Steps.refl _)
  exact ⟨T9, some (.int (Int32.ofNat len)), _, _, _, X9, by simp, rfl, rfl, (fun h => by cases h), ⟨rfl, B9, p9.from hh0, f9⟩, fun fs hl => c11.trans (X9.ireturnOut hexec hret rfl (Or.inl rfl) (hb hbytes d46) hl)⟩
end Cmp5
namespace Cmp3
def yN : MethodName := ⟨"java/lang/StringUTF16", "compress", "([CII)[B"⟩
abbrev yB : ByteArray := jdk_52_method_16_code
theorem d0 : decode yB 0 = .ok (.iload_n 2, 1) := by decide +kernel
theorem d1 : decode yB 1 = .ok (.newarray .byte, 2) := by decide +kernel
theorem d3 : decode yB 3 = .ok (.astore_n 3, 1) := by decide +kernel
theorem d4 : decode yB 4 = .ok (.aload_n 0, 1) := by decide +kernel
theorem d5 : decode yB 5 = .ok (.iload_n 1, 1) := by decide +kernel
theorem d6 : decode yB 6 = .ok (.aload_n 3, 1) := by decide +kernel
theorem d7 : decode yB 7 = .ok (.iconst 0, 1) := by decide +kernel
theorem d8 : decode yB 8 = .ok (.iload_n 2, 1) := by decide +kernel
theorem d9 : decode yB 9 = .ok (.invokestatic 115, 3) := by decide +kernel
theorem d12 : decode yB 12 = .ok (.istore 4, 2) := by decide +kernel
theorem d14 : decode yB 14 = .ok (.iload 4, 2) := by decide +kernel
theorem d16 : decode yB 16 = .ok (.iload_n 2, 1) := by decide +kernel
theorem d17 : decode yB 17 = .ok (.if_icmp (.eq) 40, 3) := by decide +kernel
theorem d57 : decode yB 57 = .ok (.aload_n 3, 1) := by decide +kernel
theorem d58 : decode yB 58 = .ok (.areturn, 1) := by decide +kernel
def site : List Cond := [.arrayClass .byte, Cmp5.tab] ++ staticW U16 115 Cmp5.yN
def tab : Cond := tabOf yN yB 6 (some (.array .byte)) site
def P (b : Addr) (A : Cell) (o len : Nat) (args : Array Value) (s : State) : Prop := args = #[.ref b, .int (Int32.ofNat o), .int (Int32.ofNat len)] ∧ Ch b A s ∧ o + len ≤ A.slots.size ∧ len ≤ 536870912 ∧ ∀ i, i < len → ¬ 255 < cv A (o + i)
def E (b : Addr) (A : Cell) (o len : Nat) (r : Option Value) (s u : State) : Prop := NewArr .byte "[B" len (fun j => .int (lo8 (cv A (o + j)))) r s u ∧ u.heap.size = s.heap.size + 1
/-- no char of the range above 255: a new byte[] of their low bytes -/
theorem law (l : Launch) (b : Addr) (A : Cell) (o len : Nat) : Law l yN 3 3 1 18 yB 6 (some (.array .byte)) site (P b A o len) (E b A o len) [] 1 len := by
  refine Law.of_walk (plainFor_of_name (by decide +kernel)) (by decide +kernel) (by decide +kernel) (by decide) (fun _ _ h => by rw [h.1]; rfl) (fun _ U U' hal hh h => ⟨h.1, h.2.1.mv hal hh, h.2.2⟩) (fun r U U' V V' h1 hal h2 h => ⟨NewArr.mv r U U' V V' h1 hal h2 h.1, by rw [h1, h2]; exact h.2⟩) ?_
  intro p e s m args below meth c s₁ X0 hexec hbytes hml hret hlk hnm hown hh0 W hP
  obtain ⟨rfl, hA, l1, l2, hp⟩ := hP
  have a31 := hA.1.2.2.2
  have c1 : Steps p.tables e below (s₁.setTop (entryFrame m #[.ref b, .int (Int32.ofNat o), .int (Int32.ofNat len)] 6)) (s₁.setTop (mkF m 0 #[.val (.ref b), .val (.int (Int32.ofNat o)), .val (.int (Int32.ofNat len)), .unset, .unset, .unset] [])) := entry rfl
  have c2 : Steps p.tables e below (s₁.setTop (entryFrame m #[.ref b, .int (Int32.ofNat o), .int (Int32.ofNat len)] 6)) (s₁.setTop (mkF m 1 #[.val (.ref b), .val (.int (Int32.ofNat o)), .val (.int (Int32.ofNat len)), .unset, .unset, .unset] [.int (Int32.ofNat len)])) := c1.trans (by
    refine XS.iloadN X0.here hexec rfl (hb hbytes d0) rfl ?_
    exact Steps.refl _)
  obtain ⟨T3, B3, X3, ba3, bs3, bv3, bh3, bf3, st3⟩ := X0.anew hexec (atype := .byte) (wk W (.arrayClass .byte)) rfl (by show len * 1 ≤ _; omega) (by omega) (g := (mkF m 1 #[.val (.ref b), .val (.int (Int32.ofNat o)), .val (.int (Int32.ofNat len)), .unset, .unset, .unset] [.int (Int32.ofNat len)])) rfl (hb hbytes d1) (rest := []) rfl (Nat.le_refl _) (by show 0 + len ≤ len; omega)
  rw [hh0] at ba3 st3
  have kp3 : XT.Kept s T3 := (XT.Kept.of_eq hh0).push bh3
  have hA3 := hA.keep X3.warmed.alike (kp3 _ _ hA.1.1)
  have hne : b ≠ s.heap.size := hA.1.ne
  have c4 : Steps p.tables e below (s₁.setTop (entryFrame m #[.ref b, .int (Int32.ofNat o), .int (Int32.ofNat len)] 6)) (T3.setTop (mkF m 3 #[.val (.ref b), .val (.int (Int32.ofNat o)), .val (.int (Int32.ofNat len)), .unset, .unset, .unset] [.ref s.heap.size])) := c2.trans (st3 _ (Steps.refl _))
  have c5 : Steps p.tables e below (s₁.setTop (entryFrame m #[.ref b, .int (Int32.ofNat o), .int (Int32.ofNat len)] 6)) (T3.setTop (mkF m 9 #[.val (.ref b), .val (.int (Int32.ofNat o)), .val (.int (Int32.ofNat len)), .val (.ref s.heap.size), .unset, .unset] [.int (Int32.ofNat len), .int 0, .ref s.heap.size, .int (Int32.ofNat o), .ref b])) := c4.trans (by
    refine XS.astoreN X3.here hexec rfl (hb hbytes d3) rfl rfl rfl ?_
    refine XS.aloadN X3.here hexec rfl (hb hbytes d4) rfl rfl ?_
    refine XS.iloadN X3.here hexec rfl (hb hbytes d5) rfl ?_
    refine XS.aloadN X3.here hexec rfl (hb hbytes d6) rfl rfl ?_
    refine iconstV X3.here hexec rfl 0 (hb hbytes d7) (by decide) ?_
    refine XS.iloadN X3.here hexec rfl (hb hbytes d8) rfl ?_
    exact Steps.refl _)
  obtain ⟨v6, T6, X6, E6, g6⟩ := X3.callS hexec (Cmp5.law l b A s.heap.size B3 o 0 len) hown (wks W (staticW U16 115 Cmp5.yN)) (wk W Cmp5.tab) (W := 0) (Nat.le_of_ble_eq_true rfl) (Nat.le_of_ble_eq_true rfl) (Nat.le_refl _) (by show 0 + len + 0 ≤ len; omega) (g := (mkF m 9 #[.val (.ref b), .val (.int (Int32.ofNat o)), .val (.int (Int32.ofNat len)), .val (.ref s.heap.size), .unset, .unset] [.int (Int32.ofNat len), .int (Int32.ofNat 0), .ref s.heap.size, .int (Int32.ofNat o), .ref b])) rfl (by rw [hml]; rfl) c5 (argsL := [.ref b, .int (Int32.ofNat o), .ref s.heap.size, .int (Int32.ofNat 0), .int (Int32.ofNat len)]) (rest := []) rfl rfl (by show 2 * 0 + 0 ≤ _; decide) (hb hbytes d9) (⟨rfl, hA3, ba3, hne, l1, by rw [bs3]; simp, hp⟩)
  obtain ⟨rfl, B6, p6, f6⟩ := E6
  have c7 : Steps p.tables e below (s₁.setTop (entryFrame m #[.ref b, .int (Int32.ofNat o), .int (Int32.ofNat len)] 6)) (T6.setTop (mkF m 12 #[.val (.ref b), .val (.int (Int32.ofNat o)), .val (.int (Int32.ofNat len)), .val (.ref s.heap.size), .unset, .unset] [.int (Int32.ofNat len)])) := g6
  have c8 : Steps p.tables e below (s₁.setTop (entryFrame m #[.ref b, .int (Int32.ofNat o), .int (Int32.ofNat len)] 6)) (T6.setTop (mkF m 58 #[.val (.ref b), .val (.int (Int32.ofNat o)), .val (.int (Int32.ofNat len)), .val (.ref s.heap.size), .val (.int (Int32.ofNat len)), .unset] [.ref s.heap.size])) := c7.trans (by
    refine XS.istore X6.here hexec rfl (hb hbytes d12) rfl rfl ?_
    refine XS.iload X6.here hexec rfl (hb hbytes d14) rfl ?_
    refine XS.iloadN X6.here hexec rfl (hb hbytes d16) rfl ?_
    refine XS.icmpYes X6.here hexec rfl (pc0 := 17) rfl (hb hbytes d17) rfl (ii_eq_t rfl) (by decide) rfl ?_
    refine XS.aloadN X6.here hexec rfl (hb hbytes d57) rfl rfl ?_
    exact Steps.refl _)
  have X8 := X6.wide (L' := []) (cells' := 1) (slots' := len) (fun x hx hlt => by
    simp only [List.nil_append, copyLocs, List.mem_map, List.mem_range] at hx
    obtain ⟨i, -, rfl⟩ := hx
    exact absurd hlt (Nat.lt_irrefl _)) (Nat.le_refl _) (by omega)
  exact ⟨T6, some (.ref s.heap.size), _, _, _, X8, rfl, rfl, rfl, (fun h => by cases h), ⟨⟨rfl, B6, ba3.like (X3.warmed.alike.symm.trans X6.warmed.alike) p6.1 f6.1 f6.2.1 f6.2.2.1, f6.2.1.trans bv3, by rw [X6.warmed.alike.findClass, f6.1]; exact bf3, by rw [f6.2.2.1, bs3]; simp, fun j hj => by rw [f6.2.2.2 j, if_pos (by omega)]; rfl, kp3.put p6 (Nat.le_refl _)⟩, by rw [p6.2.2, bh3, hh0]; simp⟩, fun fs hl => c8.trans (X8.areturnOut hexec rfl hret rfl (hb hbytes d58) hl)⟩
end Cmp3
namespace CodL
def yN : MethodName := ⟨"java/lang/StringUTF16", "coderFromArrayLen", "([BI)B"⟩
abbrev yB : ByteArray := jdk_52_method_15_code
theorem d0 : decode yB 0 = .ok (.iload_n 1, 1) := by decide +kernel
theorem d1 : decode yB 1 = .ok (.aload_n 0, 1) := by decide +kernel
theorem d2 : decode yB 2 = .ok (.arraylength, 1) := by decide +kernel
theorem d3 : decode yB 3 = .ok (.isub, 1) := by decide +kernel
theorem d4 : decode yB 4 = .ok (.bipush 31, 2) := by decide +kernel
theorem d6 : decode yB 6 = .ok (.iushr, 1) := by decide +kernel
theorem d7 : decode yB 7 = .ok (.i2b, 1) := by decide +kernel
theorem d8 : decode yB 8 = .ok (.ireturn, 1) := by decide +kernel
def site : List Cond := []
def tab : Cond := tabOf yN yB 2 (some .byte) site
def P (d : Addr) (B : Cell) (args : Array Value) (s : State) : Prop := args = #[.ref d, .int (Int32.ofNat B.slots.size)] ∧ Arr .byte d B s
def E (r : Option Value) (s u : State) : Prop := XT.PureE (some (.int 0)) r s u
/-- an array as long as the number of chars: LATIN1 -/
theorem law (l : Launch) (d : Addr) (B : Cell) : Law l yN 2 2 0 0 yB 2 (some .byte) site (P d B) E [] 0 0 := by
  refine Law.of_walk (plainFor_of_name (by decide +kernel)) (by decide +kernel) (by decide +kernel) (by decide) (fun _ _ h => by rw [h.1]; rfl) (fun _ U U' hal hh h => ⟨h.1, h.2.mv hal hh⟩) (fun r U U' V V' h1 hal h2 h => XT.PureE.mv r U U' V V' h1 hal h2 h) ?_
  intro p e s m args below meth c s₁ X0 hexec hbytes hml hret hlk hnm hown hh0 W hP
  obtain ⟨rfl, hB⟩ := hP
  have hB0 := hB.mv X0.warmed.alike hh0
  have c1 : Steps p.tables e below (s₁.setTop (entryFrame m #[.ref d, .int (Int32.ofNat B.slots.size)] 2)) (s₁.setTop (mkF m 0 #[.val (.ref d), .val (.int (Int32.ofNat B.slots.size))] [])) := entry rfl
  have c2 : Steps p.tables e below (s₁.setTop (entryFrame m #[.ref d, .int (Int32.ofNat B.slots.size)] 2)) (s₁.setTop (mkF m 2 #[.val (.ref d), .val (.int (Int32.ofNat B.slots.size))] [.ref d, .int (Int32.ofNat B.slots.size)])) := c1.trans (by
    refine XS.iloadN X0.here hexec rfl (hb hbytes d0) rfl ?_
    refine XS.aloadN X0.here hexec rfl (hb hbytes d1) rfl rfl ?_
    exact Steps.refl _)
  have c3 : Steps p.tables e below (s₁.setTop (entryFrame m #[.ref d, .int (Int32.ofNat B.slots.size)] 2)) (s₁.setTop (mkF m 8 #[.val (.ref d), .val (.int (Int32.ofNat B.slots.size))] [.int (lo8 (ushr (Int32.ofNat B.slots.size - Int32.ofNat B.slots.size) 31))])) := c2.trans (by
    refine X0.alen hexec hB0 rfl rfl (hb hbytes d2) ?_
    refine XS.isub X0.here hexec rfl (hb hbytes d3) rfl ?_
    refine bipushV X0.here hexec rfl 31 (hb hbytes d4) (by decide) ?_
    refine iushr X0.here hexec rfl (hb hbytes d6) rfl ?_
    refine i2b X0.here hexec rfl (hb hbytes d7) rfl ?_
    exact Steps.refl _)
  have e0 : lo8 (ushr (Int32.ofNat B.slots.size - Int32.ofNat B.slots.size) 31) = 0 := by rw [Int32.sub_self]; decide
  rw [e0] at c3
  exact ⟨s₁, some (.int 0), _, _, _, X0, rfl, rfl, rfl, (fun h => by cases h), ⟨rfl, hh0⟩, fun fs hl => c3.trans (X0.ireturnOut hexec hret rfl (Or.inr (Or.inr (Or.inl rfl))) (hb hbytes d8) hl)⟩
end CodL
/-- the String at a is Latin-1 over a new byte[] (the heap's one new cell): the low bytes of the len chars of A from o on; every cell but a is kept -/
def Got (a : Addr) (D : Cell) (fV fC : Field) (A : Cell) (o len : Nat) (r : Option Value) (s u : State) : Prop := r = none ∧ ∃ D' V : Cell, Blank "java/lang/String" a D' u ∧ Same D D' [fV.slot, fC.slot] ∧ D'.slots[fV.slot]? = some (.ref s.heap.size) ∧ D'.slots[fC.slot]? = some (.int 0) ∧ Arr .byte s.heap.size V u ∧ V.vm = .none ∧ u.vm.findClass "[B" = some V.cls ∧ V.slots.size = len ∧ (∀ j, j < len → V.slots[j]? = some (.int (lo8 (cv A (o + j))))) ∧ (∀ (y : Addr) (c : Cell), y ≠ a → s.heap[y]? = some c → u.heap[y]? = some c) ∧ u.heap.size = s.heap.size + 1
theorem Got.mv {a : Addr} {D A : Cell} {fV fC : Field} {o len : Nat} : ∀ r (U U' V V' : State), U'.heap = U.heap → V.vm.Alike V'.vm → V'.heap = V.heap → Got a D fV fC A o len r U V → Got a D fV fC A o len r U' V' :=
  fun r U U' V V' h1 hal h2 ⟨e0, D', X, a1, a2, a3, a4, a5, a6, a7, a8, a9, a10, a11⟩ => ⟨e0, D', X, a1.mv hal h2, a2, by rw [h1]; exact a3, a4, by rw [h1]; exact a5.mv hal h2, a6, by rw [hal.findClass]; exact a7, a8, a9, by rw [h1, h2]; exact a10, by rw [h1, h2]; exact a11⟩
namespace New4
def yN : MethodName := ⟨"java/lang/String", "<init>", "([CIILjava/lang/Void;)V"⟩
abbrev yB : ByteArray := jdk_42_method_149_code
theorem d0 : decode yB 0 = .ok (.aload_n 0, 1) := by decide +kernel
theorem d1 : decode yB 1 = .ok (.invokespecial 1, 3) := by decide +kernel
theorem d4 : decode yB 4 = .ok (.iload_n 3, 1) := by decide +kernel
theorem d5 : decode yB 5 = .ok (.ifCond (.ne) 22, 3) := by decide +kernel
theorem d27 : decode yB 27 = .ok (.getstatic 38, 3) := by decide +kernel
theorem d30 : decode yB 30 = .ok (.ifCond (.eq) 28, 3) := by decide +kernel
theorem d33 : decode yB 33 = .ok (.aload_n 1, 1) := by decide +kernel
theorem d34 : decode yB 34 = .ok (.iload_n 2, 1) := by decide +kernel
theorem d35 : decode yB 35 = .ok (.iload_n 3, 1) := by decide +kernel
theorem d36 : decode yB 36 = .ok (.invokestatic 177, 3) := by decide +kernel
theorem d39 : decode yB 39 = .ok (.astore 5, 2) := by decide +kernel
theorem d41 : decode yB 41 = .ok (.aload_n 0, 1) := by decide +kernel
theorem d42 : decode yB 42 = .ok (.aload 5, 2) := by decide +kernel
theorem d44 : decode yB 44 = .ok (.iload_n 3, 1) := by decide +kernel
theorem d45 : decode yB 45 = .ok (.invokestatic 47, 3) := by decide +kernel
theorem d48 : decode yB 48 = .ok (.putfield 15, 3) := by decide +kernel
theorem d51 : decode yB 51 = .ok (.aload_n 0, 1) := by decide +kernel
theorem d52 : decode yB 52 = .ok (.aload 5, 2) := by decide +kernel
theorem d54 : decode yB 54 = .ok (.putfield 9, 3) := by decide +kernel
theorem d57 : decode yB 57 = .ok (.return_, 1) := by decide +kernel
def site : List Cond := [.fieldLink "java/lang/String" 38 "java/lang/String" "COMPACT_STRINGS" "Z", Cmp3.tab, CodL.tab, .laysFinal "java/lang/String" "java/lang/String" "value" "[B", .fieldLink "java/lang/String" 9 "java/lang/String" "value" "[B", .laysFinal "java/lang/String" "java/lang/String" "coder" "B", .fieldLink "java/lang/String" 15 "java/lang/String" "coder" "B"] ++ objW "java/lang/String" 1 ++ staticW "java/lang/String" 177 Cmp3.yN ++ staticW "java/lang/String" 47 CodL.yN
def tab : Cond := tabOf yN yB 6 none site
def P (a : Addr) (D : Cell) (fV fC : Field) (b : Addr) (A : Cell) (z : Int32) (o len : Nat) (args : Array Value) (s : State) : Prop := args = #[.ref a, .ref b, .int (Int32.ofNat o), .int (Int32.ofNat len), .null] ∧ Blank "java/lang/String" a D s ∧ Found "java/lang/String" "value" "[B" fV s ∧ Found "java/lang/String" "coder" "B" fC s ∧ Ch b A s ∧ StaticIs s "java/lang/String" "COMPACT_STRINGS" "Z" (.int z) ∧ ¬ z = 0 ∧ 0 < len ∧ o + len ≤ A.slots.size ∧ len ≤ 536870912 ∧ ∀ i, i < len → ¬ 255 < cv A (o + i)
def E (a : Addr) (D : Cell) (fV fC : Field) (A : Cell) (o len : Nat) (r : Option Value) (s u : State) : Prop := Got a D fV fC A o len r s u
/-- len > 0, no char of the range above 255: a Latin-1 String of their low bytes -/
theorem law (l : Launch) (a : Addr) (D : Cell) (fV fC : Field) (b : Addr) (A : Cell) (z : Int32) (o len : Nat) : Law l yN 5 4 2 35 yB 6 none site (P a D fV fC b A z o len) (E a D fV fC A o len) [⟨a, fC.slot⟩, ⟨a, fV.slot⟩] 1 len := by
  refine Law.of_walk (plainFor_of_name (by decide +kernel)) (by decide +kernel) (by decide +kernel) (by decide) (fun _ _ h => by rw [h.1]; rfl) (fun _ U U' hal hh h => ⟨h.1, h.2.1.mv hal hh, h.2.2.1.al hal, h.2.2.2.1.al hal, h.2.2.2.2.1.mv hal hh, h.2.2.2.2.2.1.there hal hh, h.2.2.2.2.2.2⟩) (fun r U U' V V' h1 hal h2 h => Got.mv r U U' V V' h1 hal h2 h) ?_
  intro p e s m args below meth c s₁ X0 hexec hbytes hml hret hlk hnm hown hh0 W hP
  obtain ⟨rfl, hB, f1, f2, hA, s1, hz, l0, l1, l2, hp⟩ := hP
  have a31 := hA.1.2.2.2
  have c1 : Steps p.tables e below (s₁.setTop (entryFrame m #[.ref a, .ref b, .int (Int32.ofNat o), .int (Int32.ofNat len), .null] 6)) (s₁.setTop (mkF m 0 #[.val (.ref a), .val (.ref b), .val (.int (Int32.ofNat o)), .val (.int (Int32.ofNat len)), .val .null, .unset] [])) := entry rfl
  have c2 : Steps p.tables e below (s₁.setTop (entryFrame m #[.ref a, .ref b, .int (Int32.ofNat o), .int (Int32.ofNat len), .null] 6)) (s₁.setTop (mkF m 1 #[.val (.ref a), .val (.ref b), .val (.int (Int32.ofNat o)), .val (.int (Int32.ofNat len)), .val .null, .unset] [.ref a])) := c1.trans (by
    refine XS.aloadN X0.here hexec rfl (hb hbytes d0) rfl rfl ?_
    exact Steps.refl _)
  obtain ⟨T3, X3, q3, st3⟩ := X0.oinit hexec hown (wks W (objW "java/lang/String" 1)) (g := (mkF m 1 #[.val (.ref a), .val (.ref b), .val (.int (Int32.ofNat o)), .val (.int (Int32.ofNat len)), .val .null, .unset] [.ref a])) rfl (by rw [hml]; rfl) (rest := []) rfl (hb hbytes d1) (W := 0) (by show 2 * 0 + 0 ≤ _; decide) (Nat.le_of_ble_eq_true rfl) (Nat.le_of_ble_eq_true rfl)
  have hh3 := q3.trans hh0
  have c4 : Steps p.tables e below (s₁.setTop (entryFrame m #[.ref a, .ref b, .int (Int32.ofNat o), .int (Int32.ofNat len), .null] 6)) (T3.setTop (mkF m 27 #[.val (.ref a), .val (.ref b), .val (.int (Int32.ofNat o)), .val (.int (Int32.ofNat len)), .val .null, .unset] [])) := (c2.trans (st3 _ (Steps.refl _))).trans (by
    refine XS.iloadN X3.here hexec rfl (hb hbytes d4) rfl ?_
    refine XS.ifYes X3.here hexec rfl (pc0 := 5) rfl (hb hbytes d5) rfl (i0_ne_t (nz32 (by omega) l0)) (by decide) rfl ?_
    exact Steps.refl _)
  obtain ⟨T5, X5, q5, st5⟩ := X3.sget hexec hown (wk W (.fieldLink "java/lang/String" 38 "java/lang/String" "COMPACT_STRINGS" "Z")) s1 (fun _ _ h => by rw [hh3]; exact h) (g := (mkF m 27 #[.val (.ref a), .val (.ref b), .val (.int (Int32.ofNat o)), .val (.int (Int32.ofNat len)), .val .null, .unset] [])) rfl (hb hbytes d27)
  have hh5 := q5.trans hh3
  have c6 : Steps p.tables e below (s₁.setTop (entryFrame m #[.ref a, .ref b, .int (Int32.ofNat o), .int (Int32.ofNat len), .null] 6)) (T5.setTop (mkF m 30 #[.val (.ref a), .val (.ref b), .val (.int (Int32.ofNat o)), .val (.int (Int32.ofNat len)), .val .null, .unset] [.int z])) := c4.trans (st5 _ (Steps.refl _))
  have c7 : Steps p.tables e below (s₁.setTop (entryFrame m #[.ref a, .ref b, .int (Int32.ofNat o), .int (Int32.ofNat len), .null] 6)) (T5.setTop (mkF m 36 #[.val (.ref a), .val (.ref b), .val (.int (Int32.ofNat o)), .val (.int (Int32.ofNat len)), .val .null, .unset] [.int (Int32.ofNat len), .int (Int32.ofNat o), .ref b])) := c6.trans (by
    refine XS.ifNo X5.here hexec rfl (hb hbytes d30) rfl (i0_eq_f hz) ?_
    refine XS.aloadN X5.here hexec rfl (hb hbytes d33) rfl rfl ?_
    refine XS.iloadN X5.here hexec rfl (hb hbytes d34) rfl ?_
    refine XS.iloadN X5.here hexec rfl (hb hbytes d35) rfl ?_
    exact Steps.refl _)
  obtain ⟨v8, T8, X8, E8, g8⟩ := X5.callS hexec (Cmp3.law l b A o len) hown (wks W (staticW "java/lang/String" 177 Cmp3.yN)) (wk W Cmp3.tab) (W := 0) (Nat.le_of_ble_eq_true rfl) (Nat.le_of_ble_eq_true rfl) (Nat.le_refl _) (by show 0 + len ≤ len; omega) (g := (mkF m 36 #[.val (.ref a), .val (.ref b), .val (.int (Int32.ofNat o)), .val (.int (Int32.ofNat len)), .val .null, .unset] [.int (Int32.ofNat len), .int (Int32.ofNat o), .ref b])) rfl (by rw [hml]; rfl) c7 (argsL := [.ref b, .int (Int32.ofNat o), .int (Int32.ofNat len)]) (rest := []) rfl rfl (by show 2 * 0 + 0 ≤ _; decide) (hb hbytes d36) (⟨rfl, hA.mv X5.warmed.alike hh5, l1, l2, hp⟩)
  obtain ⟨e8, z8⟩ := E8
  obtain ⟨rfl, N, n1, n2, n3, n4, n5, n6⟩ := NewArr.mv _ T5 s _ _ hh5.symm (Vm.Alike.refl _) rfl e8
  rw [hh5] at z8
  have hB1 := hB.keep X8.warmed.alike (n6 _ _ hB.1)
  have hne : s.heap.size ≠ a := (Nat.ne_of_lt (Array.getElem?_eq_some_iff.mp hB.1).1).symm
  have c9 : Steps p.tables e below (s₁.setTop (entryFrame m #[.ref a, .ref b, .int (Int32.ofNat o), .int (Int32.ofNat len), .null] 6)) (T8.setTop (mkF m 39 #[.val (.ref a), .val (.ref b), .val (.int (Int32.ofNat o)), .val (.int (Int32.ofNat len)), .val .null, .unset] [.ref s.heap.size])) := g8
  have c10 : Steps p.tables e below (s₁.setTop (entryFrame m #[.ref a, .ref b, .int (Int32.ofNat o), .int (Int32.ofNat len), .null] 6)) (T8.setTop (mkF m 45 #[.val (.ref a), .val (.ref b), .val (.int (Int32.ofNat o)), .val (.int (Int32.ofNat len)), .val .null, .val (.ref s.heap.size)] [.int (Int32.ofNat N.slots.size), .ref s.heap.size, .ref a])) := by
    have hc : Steps p.tables e below (s₁.setTop (entryFrame m #[.ref a, .ref b, .int (Int32.ofNat o), .int (Int32.ofNat len), .null] 6)) (T8.setTop (mkF m 45 #[.val (.ref a), .val (.ref b), .val (.int (Int32.ofNat o)), .val (.int (Int32.ofNat len)), .val .null, .val (.ref s.heap.size)] [.int (Int32.ofNat len), .ref s.heap.size, .ref a])) := c9.trans (by
      refine XS.astore X8.here hexec rfl (hb hbytes d39) rfl rfl rfl ?_
      refine XS.aloadN X8.here hexec rfl (hb hbytes d41) rfl rfl ?_
      refine XS.aload X8.here hexec rfl (hb hbytes d42) rfl rfl ?_
      refine XS.iloadN X8.here hexec rfl (hb hbytes d44) rfl ?_
      exact Steps.refl _)
    rw [n4]; exact hc
  obtain ⟨v11, T11, X11, E11, g11⟩ := X8.callS hexec (CodL.law l s.heap.size N) hown (wks W (staticW "java/lang/String" 47 CodL.yN)) (wk W CodL.tab) (W := 1) (Nat.le_of_ble_eq_true rfl) (Nat.le_of_ble_eq_true rfl) (Nat.le_refl _) (by show 0 + len + 0 ≤ len; omega) (g := (mkF m 45 #[.val (.ref a), .val (.ref b), .val (.int (Int32.ofNat o)), .val (.int (Int32.ofNat len)), .val .null, .val (.ref s.heap.size)] [.int (Int32.ofNat N.slots.size), .ref s.heap.size, .ref a])) rfl (by rw [hml]; rfl) c10 (argsL := [.ref s.heap.size, .int (Int32.ofNat N.slots.size)]) (rest := [.ref a]) rfl rfl (by show 2 * 0 + (1 + 0) ≤ _; decide) (hb hbytes d45) (⟨rfl, n1⟩)
  obtain ⟨rfl, q11⟩ := E11
  have hB11 := hB1.mv (X8.warmed.alike.symm.trans X11.warmed.alike) q11
  have c12 : Steps p.tables e below (s₁.setTop (entryFrame m #[.ref a, .ref b, .int (Int32.ofNat o), .int (Int32.ofNat len), .null] 6)) (T11.setTop (mkF m 48 #[.val (.ref a), .val (.ref b), .val (.int (Int32.ofNat o)), .val (.int (Int32.ofNat len)), .val .null, .val (.ref s.heap.size)] [.int 0, .ref a])) := g11
  obtain ⟨T13, X13, p13, bl13, sl13, st13⟩ := X11.finit hexec hown (wk W (.fieldLink "java/lang/String" 15 "java/lang/String" "coder" "B")) (Or.inr ⟨_, (wk W (.laysFinal "java/lang/String" "java/lang/String" "coder" "B"))⟩) (Or.inl ⟨rfl, hnm⟩) f2 (Or.inl rfl) hB11 (t := .byte) (by decide +kernel) rfl (g := (mkF m 48 #[.val (.ref a), .val (.ref b), .val (.int (Int32.ofNat o)), .val (.int (Int32.ofNat len)), .val .null, .val (.ref s.heap.size)] [.int 0, .ref a])) rfl (rest := []) rfl (hb hbytes d48)
  have c14 : Steps p.tables e below (s₁.setTop (entryFrame m #[.ref a, .ref b, .int (Int32.ofNat o), .int (Int32.ofNat len), .null] 6)) (T13.setTop (mkF m 54 #[.val (.ref a), .val (.ref b), .val (.int (Int32.ofNat o)), .val (.int (Int32.ofNat len)), .val .null, .val (.ref s.heap.size)] [.ref s.heap.size, .ref a])) := (c12.trans (st13 _ (Steps.refl _))).trans (by
    refine XS.aloadN X13.here hexec rfl (hb hbytes d51) rfl rfl ?_
    refine XS.aload X13.here hexec rfl (hb hbytes d52) rfl rfl ?_
    exact Steps.refl _)
  obtain ⟨T15, X15, p15, bl15, sl15, st15⟩ := X13.finit hexec hown (wk W (.fieldLink "java/lang/String" 9 "java/lang/String" "value" "[B")) (Or.inr ⟨_, (wk W (.laysFinal "java/lang/String" "java/lang/String" "value" "[B"))⟩) (Or.inl ⟨rfl, hnm⟩) f1 (Or.inl rfl) bl13 (t := (.array .byte)) (by decide +kernel) rfl (g := (mkF m 54 #[.val (.ref a), .val (.ref b), .val (.int (Int32.ofNat o)), .val (.int (Int32.ofNat len)), .val .null, .val (.ref s.heap.size)] [.ref s.heap.size, .ref a])) rfl (rest := []) rfl (hb hbytes d54)
  have c16 : Steps p.tables e below (s₁.setTop (entryFrame m #[.ref a, .ref b, .int (Int32.ofNat o), .int (Int32.ofNat len), .null] 6)) (T15.setTop (mkF m 57 #[.val (.ref a), .val (.ref b), .val (.int (Int32.ofNat o)), .val (.int (Int32.ofNat len)), .val .null, .val (.ref s.heap.size)] [])) := c14.trans (st15 _ (Steps.refl _))
  have ap := apart (Or.inr ⟨_, (wk W (.laysFinal "java/lang/String" "java/lang/String" "value" "[B"))⟩) (Or.inr ⟨_, (wk W (.laysFinal "java/lang/String" "java/lang/String" "coder" "B"))⟩) f1 f2 (t₁ := .array .byte) (t₂ := .byte) (by decide +kernel) (by decide +kernel) (by decide)
  have al := X8.warmed.alike.symm.trans X15.warmed.alike
  have n7 : T11.heap[s.heap.size]? = some N := by rw [q11]; exact n1.1
  exact ⟨T15, none, _, _, _, X15, by simp, rfl, by omega, (fun _ => rfl), ⟨rfl, _, N, bl15, ((Same.refl D _).set _ (by simp)).set _ (by simp), sl15, (Cell.slots_setSlot_ne _ ap).trans sl13, n1.keep al (p15.other hne (p13.other hne n7)), n2, by rw [al.findClass]; exact n3, n4, n5, fun y c h1 h2 => p15.other h1 (p13.other h1 (by rw [q11]; exact n6 y c h2)), by rw [p15.2.2, p13.2.2, q11]; exact z8⟩, fun fs hl => c16.trans (X15.returnOut hexec hret (hb hbytes d57) hl)⟩
end New4
namespace New1
def yN : MethodName := ⟨"java/lang/String", "<init>", "([C)V"⟩
abbrev yB : ByteArray := jdk_42_method_3_code
theorem d0 : decode yB 0 = .ok (.aload_n 0, 1) := by decide +kernel
theorem d1 : decode yB 1 = .ok (.aload_n 1, 1) := by decide +kernel
theorem d2 : decode yB 2 = .ok (.iconst 0, 1) := by decide +kernel
theorem d3 : decode yB 3 = .ok (.aload_n 1, 1) := by decide +kernel
theorem d4 : decode yB 4 = .ok (.arraylength, 1) := by decide +kernel
theorem d5 : decode yB 5 = .ok (.aconst_null, 1) := by decide +kernel
theorem d6 : decode yB 6 = .ok (.invokespecial 27, 3) := by decide +kernel
theorem d9 : decode yB 9 = .ok (.return_, 1) := by decide +kernel
def site : List Cond := [New4.tab] ++ initW "java/lang/String" 27 New4.yN
def tab : Cond := tabOf yN yB 2 none site
def P (a : Addr) (D : Cell) (fV fC : Field) (b : Addr) (A : Cell) (z : Int32) (args : Array Value) (s : State) : Prop := args = #[.ref a, .ref b] ∧ Blank "java/lang/String" a D s ∧ Found "java/lang/String" "value" "[B" fV s ∧ Found "java/lang/String" "coder" "B" fC s ∧ Ch b A s ∧ StaticIs s "java/lang/String" "COMPACT_STRINGS" "Z" (.int z) ∧ ¬ z = 0 ∧ 0 < A.slots.size ∧ A.slots.size ≤ 536870912 ∧ ∀ i, i < A.slots.size → ¬ 255 < cv A i
def E (a : Addr) (D : Cell) (fV fC : Field) (A : Cell) (r : Option Value) (s u : State) : Prop := Got a D fV fC A 0 A.slots.size r s u
/-- new String(chars), not empty, no char above 255: a Latin-1 String of their low bytes -/
theorem law (l : Launch) (a : Addr) (D : Cell) (fV fC : Field) (b : Addr) (A : Cell) (z : Int32) : Law l yN 2 1 3 52 yB 2 none site (P a D fV fC b A z) (E a D fV fC A) [⟨a, fC.slot⟩, ⟨a, fV.slot⟩] 1 A.slots.size := by
  refine Law.of_walk (plainFor_of_name (by decide +kernel)) (by decide +kernel) (by decide +kernel) (by decide) (fun _ _ h => by rw [h.1]; rfl) (fun _ U U' hal hh h => ⟨h.1, h.2.1.mv hal hh, h.2.2.1.al hal, h.2.2.2.1.al hal, h.2.2.2.2.1.mv hal hh, h.2.2.2.2.2.1.there hal hh, h.2.2.2.2.2.2⟩) (fun r U U' V V' h1 hal h2 h => Got.mv r U U' V V' h1 hal h2 h) ?_
  intro p e s m args below meth c s₁ X0 hexec hbytes hml hret hlk hnm hown hh0 W hP
  obtain ⟨rfl, hB, f1, f2, hA, s1, hz, l0, l2, hp⟩ := hP
  have c1 : Steps p.tables e below (s₁.setTop (entryFrame m #[.ref a, .ref b] 2)) (s₁.setTop (mkF m 0 #[.val (.ref a), .val (.ref b)] [])) := entry rfl
  have c2 : Steps p.tables e below (s₁.setTop (entryFrame m #[.ref a, .ref b] 2)) (s₁.setTop (mkF m 6 #[.val (.ref a), .val (.ref b)] [.null, .int (Int32.ofNat A.slots.size), .int 0, .ref b, .ref a])) := c1.trans (by
    refine XS.aloadN X0.here hexec rfl (hb hbytes d0) rfl rfl ?_
    refine XS.aloadN X0.here hexec rfl (hb hbytes d1) rfl rfl ?_
    refine iconstV X0.here hexec rfl 0 (hb hbytes d2) (by decide) ?_
    refine XS.aloadN X0.here hexec rfl (hb hbytes d3) rfl rfl ?_
    refine X0.alen hexec (hA.1.mv X0.warmed.alike hh0) rfl rfl (hb hbytes d4) ?_
    refine XS.aconstNull X0.here hexec rfl (hb hbytes d5) ?_
    exact Steps.refl _)
  obtain ⟨v3, T3, X3, E3, g3⟩ := X0.callN hexec (New4.law l a D fV fC b A z 0 A.slots.size) rfl hown (wks W (initW "java/lang/String" 27 New4.yN)) (W New4.tab (by simp only [site, List.mem_cons, List.mem_append, true_or, or_true])) (W := 0) (Nat.le_of_ble_eq_true rfl) (Nat.le_of_ble_eq_true rfl) (Nat.le_refl _) (by show 0 + A.slots.size ≤ A.slots.size; omega) (g := (mkF m 6 #[.val (.ref a), .val (.ref b)] [.null, .int (Int32.ofNat A.slots.size), .int (Int32.ofNat 0), .ref b, .ref a])) rfl (by rw [hml]; rfl) c2 (argsL := [.ref b, .int (Int32.ofNat 0), .int (Int32.ofNat A.slots.size), .null]) (rest := []) rfl rfl (by show 2 * 0 + 0 ≤ _; decide) (hb hbytes d6) (⟨rfl, hB.mv X0.warmed.alike hh0, f1.al X0.warmed.alike, f2.al X0.warmed.alike, hA.mv X0.warmed.alike hh0, s1.there X0.warmed.alike hh0, hz, l0, by omega, l2, fun i hi => by rw [Nat.zero_add]; exact hp i hi⟩)
  have e0 := Got.mv _ s₁ s _ _ hh0.symm (Vm.Alike.refl _) rfl E3
  obtain rfl := e0.1
  have c4 : Steps p.tables e below (s₁.setTop (entryFrame m #[.ref a, .ref b] 2)) (T3.setTop (mkF m 9 #[.val (.ref a), .val (.ref b)] [])) := g3
  exact ⟨T3, none, _, _, _, X3, by simp, rfl, by omega, (fun _ => rfl), e0, fun fs hl => c4.trans (X3.returnOut hexec hret (hb hbytes d9) hl)⟩
theorem pays {l : Launch} {R : Room} {p : Program} {e : Env} {below : List Frame} {s : State} {sargs : Array Value} {len W : Nat} (a : Addr) (D : Cell) (fV fC : Field) (b : Addr) (A : Cell) (z : Int32) (htab : tab.before sargs s = true) (hfr : 4 ≤ R.frames) (hlo : W + 65 ≤ R.locals) :
    Back l R p e below s sargs yN len W (fun A₁ a₁ => A₁.cells + 1 ≤ R.cells ∧ A₁.slots + A.slots.size ≤ R.slots ∧ P a D fV fC b A z a₁ A₁.U) (fun A₁ _ v₁ B₁ => E a D fV fC A v₁ A₁.U B₁.U ∧ B₁.locs = A₁.locs ++ [⟨a, fC.slot⟩, ⟨a, fV.slot⟩] ∧ B₁.cells = A₁.cells + 1 ∧ B₁.slots = A₁.slots + A.slots.size) :=
  (law l a D fV fC b A z).pays htab hfr (by omega)
end New1
end StrChars
namespace StrChars.Road
open Jvm Sem ClassFile Op Lib Jvm.Stand Jvm.Free Jvm.Free.XT
open Jvm.Lib.Cold (StaticIs)
abbrev ST : String := "java/lang/String"
/-- every table word that New1's law asks, flat -/
abbrev words : List Jvm.Cond := [.code New1.yN New1.yB 2 none, .initialized ST, .methodLink ST 27 New4.yN, .instanceMethod New4.yN,
  .code New4.yN New4.yB 6 none, .fieldLink ST 38 ST "COMPACT_STRINGS" "Z", .laysFinal ST ST "value" "[B", .fieldLink ST 9 ST "value" "[B", .laysFinal ST ST "coder" "B", .fieldLink ST 15 ST "coder" "B",
  .methodLink ST 1 Lib.objectInit, .instanceMethod Lib.objectInit, .code Lib.objectInit ⟨#[0xb1]⟩ 1 none, .methodLink ST 177 Cmp3.yN, .static Cmp3.yN, .methodLink ST 47 CodL.yN, .static CodL.yN,
  .code Cmp3.yN Cmp3.yB 6 (some (.array .byte)), .initialized U16, .arrayClass .byte, .methodLink U16 115 Cmp5.yN, .static Cmp5.yN, .code Cmp5.yN Cmp5.yB 7 (some .int), .code CodL.yN CodL.yB 2 (some .byte)]
theorem tab_of {a : Array Value} {s : State} (h : ∀ w ∈ words, w.before a s = true) : New1.tab.before a s = true := by
  have h5 : Cmp5.tab.before a s = true := unparts (wk h (.code Cmp5.yN Cmp5.yB 7 (some .int))) (wks h (.initialized Cmp5.yN.cls :: Cmp5.site))
  have hc : CodL.tab.before a s = true := unparts (wk h (.code CodL.yN CodL.yB 2 (some .byte))) (wks h (.initialized CodL.yN.cls :: CodL.site))
  have q5 : ∀ w ∈ Cmp5.tab :: words, w.before a s = true := fun w hw => (List.mem_cons.mp hw).elim (fun e => e ▸ h5) (h w)
  have h3 : Cmp3.tab.before a s = true := unparts (wk q5 (.code Cmp3.yN Cmp3.yB 6 (some (.array .byte)))) (wks q5 (.initialized Cmp3.yN.cls :: Cmp3.site))
  have q3 : ∀ w ∈ Cmp3.tab :: CodL.tab :: words, w.before a s = true := fun w hw => (List.mem_cons.mp hw).elim (fun e => e ▸ h3) fun hw => (List.mem_cons.mp hw).elim (fun e => e ▸ hc) (h w)
  have h4 : New4.tab.before a s = true := unparts (wk q3 (.code New4.yN New4.yB 6 none)) (wks q3 (.initialized New4.yN.cls :: New4.site))
  have q4 : ∀ w ∈ New4.tab :: words, w.before a s = true := fun w hw => (List.mem_cons.mp hw).elim (fun e => e ▸ h4) (h w)
  exact unparts (wk q4 (.code New1.yN New1.yB 2 none)) (wks q4 (.initialized New1.yN.cls :: New1.site))
/-- the words ride from the start Z to the walk's own state -/
theorem moved {Z s : State} {a0 args : Array Value} (hZ : Z.Warmed39 s.vm) (hw : ∀ d ∈ words, d.before a0 Z = true) : ∀ d ∈ words, d.before args s = true := fun d hd => by
  have q := hw d hd
  have t : ∀ d ∈ words, d = .arrayClass .byte ∨ (d.onTables && d.keepsFace) = true := by decide +kernel
  rcases t d hd with rfl | t
  · exact RoadKit.mvA hZ q
  · exact RoadKit.mv hZ q t
/-- WHAT COMES BACK, over the tables of the start Z: h the heap at the call, h' behind it -/
def Q (Z : State) (x : Addr) (A : Cell) (h : Heap) (v : Option Value) (h' : Heap) (L : List Loc) : Prop := v = none ∧ (∀ y ∈ L, y.base = x) ∧ RoadKit.Keep h h' [x] ∧ h'.size = h.size + 1 ∧ RoadKit.Exa Z h' x ST ∧ RoadKit.Fld Z h' x ST "value" "[B" (.ref h.size) ∧ RoadKit.Fld Z h' x ST "coder" "B" (.int 0) ∧
  (∃ V : Cell, RoadKit.Arr Z h' h.size V .byte ∧ V.vm = .none ∧ Z.vm.findClass "[B" = some V.cls ∧ V.slots.size = A.slots.size ∧ ∀ j, j < A.slots.size → V.slots[j]? = some (.int (lo8 (cv A j)))) ∧
  ∀ (O n d : String) (w : Value), RoadKit.Fld Z h x O n d w → RoadKit.slotOf Z O n d ≠ RoadKit.slotOf Z ST "value" "[B" → RoadKit.slotOf Z O n d ≠ RoadKit.slotOf Z ST "coder" "B" → RoadKit.Fld Z h' x O n d w
/-- **new String(chars) AT A CALL, IN THE ROAD'S FORM**: for specialBack behind newO: x the fresh String, b the char[] with the cell A -/
theorem back {p : Program} {l : Launch} {e : Env} {R : Room} {s : State} {args : Array Value} {below : List Frame} {len W : Nat} {Z : State} {a0 : Array Value} {h : Heap} (hZ : Z.Warmed39 s.vm) (hw : ∀ d ∈ words, d.before a0 Z = true) {kI : Nat} (wi : (Jvm.Cond.instantiable ST kI).before a0 Z = true)
    {x b : Addr} {A : Cell} {z : Int32} {v0 c0 : Value} (E : RoadKit.Exa Z h x ST) (V : RoadKit.Fld Z h x ST "value" "[B" v0) (C : RoadKit.Fld Z h x ST "coder" "B" c0) (K : RoadKit.Arr Z h b A .char) (hty : Typed .char A) (S : RoadKit.Sta Z h ST "COMPACT_STRINGS" "Z" (.int z)) (hz : ¬ z = 0)
    (l0 : 0 < A.slots.size) (l2 : A.slots.size ≤ 536870912) (hp : ∀ i, i < A.slots.size → ¬ 255 < cv A i) (hfr : 4 ≤ R.frames) (hlo : W + 65 ≤ R.locals) :
    Back l R p e below s args New1.yN len W (fun P a => a = #[.ref x, .ref b] ∧ P.U.heap = h ∧ P.cells + 1 ≤ R.cells ∧ P.slots + A.slots.size ≤ R.slots)
      (fun P _ v B => ∃ L, Q Z x A h v B.U.heap L ∧ B.locs = P.locs ++ L ∧ B.cells = P.cells + 1 ∧ B.slots = P.slots + A.slots.size) := by
  intro m meth c P g ig mk a X hg hsize hdg hW hn hp'
  obtain ⟨rfl, rfl, r1, r2⟩ := hp'
  have al : Z.vm.Alike P.U.vm := hZ.alike.trans X.warmed.alike
  obtain ⟨D, cfV, kV, iV, fV, hD, gV, stV, knV, obV, asV, slV⟩ := id V
  obtain ⟨D', cfC, kC, iC, fC, hD', gC, stC, -, -, asC, slC⟩ := id C
  cases hD.symm.trans hD'
  obtain ⟨D2, kD, e1, e2, e3, e4, e5⟩ := id E
  cases hD.symm.trans e1
  obtain ⟨c2, k2, i1, i2, i3, -⟩ := Cond.instantiable_spec wi
  cases e2.symm.trans i1
  cases e3.symm.trans i2
  obtain ⟨kU, u1, u2⟩ := al.2.2 _ _ e3
  have hB : Blank ST x D P.U := ⟨hD, ⟨knV, fun q hq => by rw [hq] at obV; cases obV⟩, by rw [al.findClass]; exact e2, kU, u1, by rw [u2]; exact i3, by rw [u2]; exact e5 i3⟩
  have F1 : Found ST "value" "[B" fV P.U := ⟨SBG.found_only al ⟨cfV, kV, iV, gV⟩, stV⟩
  have F2 : Found ST "coder" "B" fC P.U := ⟨SBG.found_only al ⟨cfC, kC, iC, gC⟩, stC⟩
  have hA : Ch b A P.U := ⟨⟨K.1, State.isArrayOf_alike al K.2.1, K.2.2, by omega⟩, hty⟩
  have hS : StaticIs P.U ST "COMPACT_STRINGS" "Z" (.int z) := by
    obtain ⟨cfS, iS, kS, fS, st, cS, t1, t2, t3, t4, t5, t6, t7⟩ := S
    exact StaticIs.there (s := { Z with heap := P.U.heap }) ⟨cfS, iS, kS, fS, st, cS, t1, t2, t3, t4, t5, (fun q => by rw [q] at t6; cases t6), t7⟩ al rfl
  obtain ⟨v, B, X', ⟨⟨hv, E', V', q1, q2, q3, q4, q5, q6, q7, q8, q9, q10, q11⟩, hl, hc, hs⟩, st⟩ := New1.pays x D fV fC b A z (tab_of (moved hZ hw)) hfr hlo m meth c P g ig mk _ X hg hsize hdg hW hn ⟨r1, r2, rfl, hB, F1, F2, hA, hS, hz, l0, l2, hp⟩
  have al' : Z.vm.Alike B.U.vm := hZ.alike.trans X'.warmed.alike
  have hsz : E'.slots.size = D.slots.size := by
    obtain ⟨-, -, -, kB, w1, w2, w3⟩ := q1
    obtain ⟨kB', y1, y2⟩ := al'.2.2 _ _ e3
    rw [q2.2.1] at w1
    cases w1.symm.trans y1
    rw [w3, e5 i3, y2]
  refine ⟨v, B, X', ⟨_, ⟨hv, ?_, ⟨by omega, fun y cy hy hn' => q10 y cy (by simpa using hn') hy, fun y cy hy => ?_⟩, q11, ⟨E', _, q1.1, by rw [q2.2.1]; exact e2, by rw [q2.2.1]; exact e3, by rw [q2.1]; exact obV, fun _ => by rw [hsz]; exact e5 i3⟩,
    ⟨E', cfV, kV, iV, fV, q1.1, gV, stV, by rw [q2.1]; exact knV, by rw [q2.1]; exact obV, by rw [q2.2.1]; exact asV, q3⟩, ⟨E', cfC, kC, iC, fC, q1.1, gC, stC, by rw [q2.1]; exact knV, by rw [q2.1]; exact obV, by rw [q2.2.1]; exact asC, q4⟩,
    ⟨V', ⟨q5.1, State.isArrayOf_alike al'.symm q5.2.1, q5.2.2.1⟩, q6, by rw [← al'.findClass]; exact q7, q8, fun j hj => by have := q9 j hj; rwa [Nat.zero_add] at this⟩, fun O n d w F n1 n2 => ?_⟩, hl, hc, hs⟩, st⟩
  · intro y hy
    simp only [List.mem_cons, List.not_mem_nil, or_false] at hy
    rcases hy with rfl | rfl <;> rfl
  · by_cases q : y = x
    · subst q
      cases hD.symm.trans hy
      exact ⟨E', q1.1, q2.2.1, q2.1, hsz⟩
    · exact ⟨cy, q10 y cy q hy, rfl, rfl, rfl⟩
  · obtain ⟨D3, cf, k, i, f, g1, g2, g3, g4, g5, g6, g7⟩ := F
    cases hD.symm.trans g1
    simp only [RoadKit.slotOf, g2, gV, gC, Option.map_some, Option.getD_some] at n1 n2
    exact ⟨E', cf, k, i, f, q1.1, g2, g3, by rw [q2.1]; exact g4, by rw [q2.1]; exact g5, by rw [q2.2.1]; exact g6, by rw [q2.2.2 f.slot (by simp [n1, n2])]; exact g7⟩
end StrChars.Road
namespace StrChars.Road
open Jvm Sem ClassFile Op Lib Jvm.Stand Jvm.Free Jvm.Free.XT
/-- WHAT COMES BACK, the byte[] as a list of values -/
def QA (Z : State) (x : Addr) (zn : Int32) (cs : List Int32) (h : Heap) (v : Option Value) (h' : Heap) (L : List Loc) : Prop := v = none ∧ (∀ y ∈ L, y.base = x) ∧ RoadKit.Keep h h' [x] ∧ h'.size = h.size + 1 ∧ RoadKit.Exa Z h' x ST ∧ RoadKit.Fld Z h' x ST "value" "[B" (.ref h.size) ∧ RoadKit.Fld Z h' x ST "coder" "B" (.int 0) ∧
  (∃ kb, Z.vm.findClass "[B" = some kb ∧ RoadKit.Arv Z h' h.size kb .byte zn (cs.map fun c => .int (lo8 c)) (.int 0)) ∧
  ∀ (O n d : String) (w : Value), RoadKit.Fld Z h x O n d w → RoadKit.slotOf Z O n d ≠ RoadKit.slotOf Z ST "value" "[B" → RoadKit.slotOf Z O n d ≠ RoadKit.slotOf Z ST "coder" "B" → RoadKit.Fld Z h' x O n d w
/-- **new String(chars) AT A CALL, THE ARRAYS AS LISTS**: the char[] at b holds cs, not empty, no char above 255 -/
theorem backArv {p : Program} {l : Launch} {e : Env} {R : Room} {s : State} {args : Array Value} {below : List Frame} {len W : Nat} {Z : State} {a0 : Array Value} {h : Heap} (hZ : Z.Warmed39 s.vm) (hw : ∀ d ∈ words, d.before a0 Z = true) {kI : Nat} (wi : (Jvm.Cond.instantiable ST kI).before a0 Z = true)
    {x b : Addr} {k : ClassId} {zn z : Int32} {cs : List Int32} {dv v0 c0 : Value} (E : RoadKit.Exa Z h x ST) (V : RoadKit.Fld Z h x ST "value" "[B" v0) (C : RoadKit.Fld Z h x ST "coder" "B" c0) (K : RoadKit.Arv Z h b k .char zn (cs.map Value.int) dv) (S : RoadKit.Sta Z h ST "COMPACT_STRINGS" "Z" (.int z)) (hz : ¬ z = 0)
    (hlen : zn.toNatClampNeg = cs.length) (h0 : 0 < cs.length) (hbig : cs.length ≤ 536870912) (hall : ∀ c ∈ cs, ¬ 255 < c) (hfr : 4 ≤ R.frames) (hlo : W + 65 ≤ R.locals) :
    Back l R p e below s args New1.yN len W (fun P a => a = #[.ref x, .ref b] ∧ P.U.heap = h ∧ P.cells + 1 ≤ R.cells ∧ P.slots + cs.length ≤ R.slots)
      (fun P _ v B => ∃ L, QA Z x zn cs h v B.U.heap L ∧ B.locs = P.locs ++ L ∧ B.cells = P.cells + 1 ∧ B.slots = P.slots + cs.length) := by
  obtain ⟨A, K1, K2, K3, K4, K5, K6⟩ := K
  have e : A.slots.size = cs.length := K3.trans hlen
  have hat : ∀ (i : Nat) (hi : i < cs.length), A.slots[i]? = some (.int cs[i]) := fun i hi => by rw [K5 i (by omega)]; simp [List.getD_eq_getElem?_getD, hi]
  have hcv : ∀ (i : Nat) (hi : i < cs.length), cv A i = cs[i] := fun i hi => by unfold cv; rw [hat i hi]
  have hty : Typed .char A := fun i v hv => by
    have hi : i < A.slots.size := (Array.getElem?_eq_some_iff.mp hv).1
    have q := K5 i hi
    rw [hv] at q
    rw [Option.some.inj q]
    exact K6 i hi
  refine Back.mono (back hZ hw wi E V C K1 hty S hz (by omega) (by omega) (fun i hi => by rw [hcv i (by omega)]; exact hall _ (List.getElem_mem _)) hfr hlo) (fun P a hp => ⟨hp.1, hp.2.1, hp.2.2.1, by rw [e]; exact hp.2.2.2⟩) (fun P a v B hp hq => ?_)
  obtain ⟨L, ⟨q1, q2, q3, q4, q5, q6, q7, ⟨V', v1, v2, v3, v4, v5⟩, q9⟩, hl, hc, hs⟩ := hq
  refine ⟨L, ⟨q1, q2, q3, q4, q5, q6, q7, ⟨V'.cls, v3, V', v1, rfl, by rw [v4, e, hlen], K4, fun i hi => ?_, fun i hi => ?_⟩, q9⟩, hl, hc, by rw [hs, e]⟩
  · have hi' : i < cs.length := by omega
    rw [v5 i (by omega), hcv i hi']; simp [List.getD_eq_getElem?_getD, hi']
  · have hi' : i < cs.length := by omega
    simp only [List.getD_eq_getElem?_getD, List.getElem?_map, List.getElem?_eq_getElem hi', Option.map_some, Option.getD_some]
    exact fits_lo8 _
end StrChars.Road
namespace StrChars.Road
open Jvm Sem ClassFile Op Lib Jvm.Stand Jvm.Free Jvm.Free.XT
/-- WHAT COMES BACK, in the writer's own shape -/
def QV (Z : State) (x : Addr) (N : Int32) (bs : List Int32) (h : Heap) (n0 : Nat) (v : Option Value) (h' : Heap) (L : List Loc) : Prop := v = none ∧ RoadKit.Fr n0 L ∧ RoadKit.Keep h h' [x] ∧ RoadKit.Exa Z h' x ST ∧ RoadKit.Fld Z h' x ST "coder" "B" (.int 0) ∧
  ∃ (t : Addr) (kb : ClassId), n0 ≤ t ∧ h.size ≤ t ∧ ¬ t = x ∧ RoadKit.Fld Z h' x ST "value" "[B" (.ref t) ∧ RoadKit.Arv Z h' t kb .byte N (bs.map Value.int) (.int 0)
/-- **new String(chars) AT A CALL, FOR THE WRITER**: a char[] of n known ints, each 0 to 255 -/
theorem backV {p : Program} {l : Launch} {e : Env} {R : Room} {s : State} {args : Array Value} {below : List Frame} {len W : Nat} {Z : State} {a0 : Array Value} {h : Heap} (hZ : Z.Warmed39 s.vm) (hw : ∀ d ∈ words, d.before a0 Z = true) {kI : Nat} (wi : (Jvm.Cond.instantiable ST kI).before a0 Z = true)
    {x b : Addr} {kC : ClassId} {cs bs : List Int32} {d v0 c0 : Value} {z N : Int32} {n n0 : Nat} (hx0 : n0 ≤ x) (hh0 : n0 ≤ h.size) (E : RoadKit.Exa Z h x ST) (V : RoadKit.Fld Z h x ST "value" "[B" v0) (C : RoadKit.Fld Z h x ST "coder" "B" c0) (K : RoadKit.Arv Z h b kC .char N (cs.map Value.int) d) (S : RoadKit.Sta Z h ST "COMPACT_STRINGS" "Z" (.int z)) (hz : ¬ z = 0)
    (hn : cs.length = n) (hN : N = Int32.ofNat n) (l0 : 0 < n) (l2 : n ≤ 4000) (hp : ∀ c ∈ cs, ¬ c < 0 ∧ ¬ (255 : Int32) < c) (hb : bs = cs.map (fun c => c.toInt8.toInt32)) (hfr : 4 ≤ R.frames) (hlo : W + 65 ≤ R.locals) :
    Back l R p e below s args (⟨"java/lang/String", "<init>", "([C)V"⟩ : MethodName) len W (fun P a => a = #[.ref x, .ref b] ∧ P.U.heap = h ∧ P.cells + 1 ≤ R.cells ∧ P.slots + n ≤ R.slots)
      (fun P _ v B => ∃ L, QV Z x N bs h n0 v B.U.heap L ∧ B.locs = P.locs ++ L ∧ B.cells = P.cells + 1 ∧ B.slots = P.slots + n) := by
  subst hn hN hb
  refine Back.mono (backArv hZ hw wi E V C K S hz (n32 (by omega)) l0 (by omega) (fun c hc => (hp c hc).2) hfr hlo) (fun P a hp => hp) (fun P a v B hp hq => ?_)
  obtain ⟨L, ⟨q1, q2, q3, q4, q5, q6, q7, ⟨kb, v1, v2⟩, q9⟩, hl, hc, hs⟩ := hq
  exact ⟨L, ⟨q1, fun y hy => by rw [q2 y hy]; exact hx0, q3, q5, q7, h.size, kb, hh0, Nat.le_refl _, Nat.ne_of_gt E.lt, q6, by rw [List.map_map]; exact v2⟩, hl, hc, hs⟩
end StrChars.Road
end Jvm.Pilot.@@N@@
namespace Jvm.RoadKit
open Sem ClassFile Op Lib Jvm.Stand Jvm.Free Jvm.LawKit
section New
variable {p : Program} {l : Launch} {e : Env} {R : Room} {s : State} {m : MethodId} {args : Array Value} {below : List Frame} {meth : Method} {c : Code} {T : State} {locs : List Loc} {cells slots : Nat}
theorem retI (X : Stand p l e R s m args below meth c T locs cells slots) (hx : p.tables.exec = Jvm.exec) {pc : Nat} {Ls : Array Slot} {z : Int32} {rest : List Value} (hret : meth.sig.returnType = some .int) (hd : decode c.code pc = .ok (.ireturn, 1)) {fs : List Frame}
    (hl : ∀ (f : JFrame) (acts : List Action), f.method = m → f.locked = none → f.entered = [] → (doReturn e (T.setTop f) acts (some (.int z))).1 = T.setFrames fs) : Steps p.tables e below (T.setTop (mkF m pc Ls (.int z :: rest))) (T.setFrames fs) := by
  have hm' : T.vm.method? m = some meth := X.method'
  have hn : narrow .int (.int z) = .int z := rfl
  show Steps p.tables e below (T.setTop { method := m, pc := pc, locals := Ls, stack := _ :: rest, locked := none }) _
  jvm_step X.here [X.here.top, hx, hd, hm', hret, hn]
  first | (intro acts; rw [hl _ acts rfl rfl rfl]) | rw [hl _ _ rfl rfl rfl]
  exact Steps.refl _
end New
end Jvm.RoadKit
namespace Jvm.Pilot.@@N@@
open Jvm Jvm.ClassFile Sem Op Lib Jvm.Free Jvm.Stand Jvm.LawKit Jvm.RoadKit Bundle Jvm.Pilot.@@N@@.Jvm.D
/-- every run from the state T with the frame f on top is a run from s0 with f0 -/
def GoTo (tb : Tables) (e : Env) (below : List Frame) (s0 : State) (f0 : JFrame) (T : State) (f : JFrame) : Prop := ∀ t, Steps tb e below (T.setTop f) t → Steps tb e below (s0.setTop f0) t
theorem own_cI (x : Int32) : (Value.int x).category = 1 := rfl
theorem own_cJ (x : Int64) : (Value.long x).category = 2 := rfl
theorem own_cR (x : Addr) : (Value.ref x).category = 1 := rfl
theorem own_cN : Value.null.category = 1 := rfl
theorem own_zlt {Z : State} {n0 : Nat} {h : Heap} {a : Addr} (O : Old Z n0 h) (q : a < Z.heap.size) : a < n0 := O.1 ▸ q
theorem own_selfSel {s : State} {args : Array Value} {C : String} {y : MethodName} (hsel : (Cond.selects C y y).before args s = true) (hpriv : s.PrivateAt y) (hinst : (Cond.instanceMethod y).before args s = true) (hy : y.cls ≠ "java/lang/invoke/MethodHandle" ∧ y.cls ≠ "java/lang/invoke/VarHandle") : (Cond.selects y.cls y y).before args s = true := by
  obtain ⟨c2, r2, m2, -, -, q3, -, kP, hkP, hkPi⟩ := Cond.selects_spec hsel
  exact selects_self_of_private (findClass_of_methodNamed q3) hkP hkPi hpriv hinst hy
theorem own_sameSelf {s : State} {args : Array Value} {C : String} {y z : MethodName} (hsel : (Cond.selects C z z).before args s = true) (hzy : z.cls = y.cls) (hinst : (Cond.instanceMethod y).before args s = true) (hy : y.cls ≠ "java/lang/invoke/MethodHandle" ∧ y.cls ≠ "java/lang/invoke/VarHandle") : (Cond.sameMethod y.cls y.cls y.name y.desc).before args s = true := by
  obtain ⟨c2, r2, m2, -, -, q3, -, kP, hkP, hkPi⟩ := Cond.selects_spec hsel
  obtain ⟨mk, methM, hnamed, hmethM, -, -⟩ := Cond.instanceMethod_spec hinst
  have h1 := findClass_of_methodNamed q3
  have h2 := findClass_of_methodNamed hnamed
  rw [hzy] at h1
  have hcls : mk.cls = m2.cls := Option.some.inj (h2.symm.trans h1)
  have hf := State.methodFound?_of_named hnamed hy
  obtain ⟨yc, yn, yd⟩ := y
  dsimp only at h1 h2 hf ⊢
  simp only [Cond.before, Cond.holds, Cond.value, h2, hf, hnamed, hcls, hkP]
  simp [hkPi]
theorem own_notFace {s : State} {args : Array Value} {C : String} {x y z : MethodName} (hsel : (Cond.selects C x z).before args s = true) (hzy : z.cls = y.cls) : NotFace s y := fun r0 h0 => by
  obtain ⟨c2, r2, m2, -, -, q3, -, kP, hkP, hkPi⟩ := Cond.selects_spec hsel
  have h1 := findClass_of_methodNamed q3
  rw [hzy] at h1
  have h2 := findClass_of_methodNamed h0
  have e : m2.cls = r0.cls := Option.some.inj (h1.symm.trans h2)
  exact ⟨kP, e ▸ hkP, hkPi⟩
theorem own_le {Z : State} {n0 : Nat} {h : Heap} (O : Old Z n0 h) : n0 ≤ h.size := O.1 ▸ O.2.1
theorem own_mono {p : Program} {l : Launch} {e : Env} {R : Room} {s : State} {m : MethodId} {args : Array Value} {below : List Frame} {meth : Method} {c : Code} {T : State} {locs : List Loc} {cells slots cells' slots' : Nat} (X : Stand p l e R s m args below meth c T locs cells slots) (h1 : cells ≤ cells') (h2 : slots ≤ slots') : Stand p l e R s m args below meth c T locs cells' slots' := { X with same := X.same.mono h1 h2 }
theorem own_NSroot {Z : State} {a0 : Array Value} {O K : String} {n : Nat} (w : (Jvm.Cond.noSuperclass O).before a0 Z = true) (wk : (Jvm.Cond.instantiable K n).before a0 Z = true) (hn : O ≠ K) : NS Z O K := by
  obtain ⟨c, k, h1, h2, h3, -, -⟩ := Cond.noSuperclass_spec w
  obtain ⟨t, k2, g1, -⟩ := Cond.instantiable_spec wk
  have ne := ids_ne h1 g1 hn
  refine ⟨c, t, h1, g1, fun fuel => ?_⟩
  cases fuel with
  | zero => rfl
  | succ f => simp [Vm.isSubclassAux, ne, h2, h3]
theorem own_NSno {Z : State} {a0 : Array Value} {C S K : String} {n : Nat} (w : (Jvm.Cond.superclass C S).before a0 Z = true) (wk : (Jvm.Cond.instantiable K n).before a0 Z = true) (nn : NS Z C K) (hn : C ≠ K) : ∃ c t, Z.vm.findClass C = some c ∧ Z.vm.findClass K = some t ∧ Z.vm.assignable c t = false := by
  obtain ⟨c, t, h0, g0, n3⟩ := nn
  obtain ⟨p, k, kp, h1, h2, h3, h4, h5, -, h7⟩ := Cond.superclass_spec h0 w
  obtain ⟨t', k', g1, g2, g5, g7, -⟩ := Cond.instantiable_spec wk
  cases g0.symm.trans g1
  have ne := ids_ne h0 g0 hn
  refine ⟨c, t, h0, g0, ?_⟩
  show Z.vm.assignableAux (255 + 1) c t = false
  have g8 : k'.isInterface = false := (Bool.or_eq_false_iff.mp g7).1
  simp [Vm.assignableAux, ne, h2, g2, h5, g5, g8, Vm.isSubclass, n3]
def own_Mir (Z : State) (C : String) (m : Addr) : Prop := ∃ (c : ClassId) (k : Class), Z.vm.findClass C = some c ∧ Z.vm.classes[c]? = some k ∧ k.mirror = some m
theorem own_mir {Z s : State} {C : String} {mr : Addr} {args : Array Value} (hZ : Z.Warmed39 s.vm) (M : own_Mir Z C mr) : (Term.mirror C).eval args s none [] s = some (.ref mr) := by
  obtain ⟨c, k, m1, m2, m3⟩ := M
  obtain ⟨k', q, ek⟩ := hZ.alike.2.2 _ _ m2
  have h1 : s.vm.findClass C = some c := by rw [hZ.alike.findClass]; exact m1
  have h2 : k'.mirror = some mr := by rw [ek]; exact m3
  simp [Term.eval, h1, q, h2]
theorem own_gcls {p : Program} {l : Launch} {e : Env} {R : Room} {s : State} {m : MethodId} {args : Array Value} {below : List Frame} {meth : Method} {c : Code} {T : State} {locs : List Loc} {cells slots : Nat} {Z : State} {h : Heap} {a : Addr} (X : Stand p l e R s m args below meth c T locs cells slots) (hx : p.tables.exec = Jvm.exec) (hZ : Z.Warmed39 s.vm) {a0 : Array Value} {own C : String} {index : Nat} (hown : s.vm.findClass own = some m.cls)
    (w1 : (Jvm.Cond.methodLink own index ⟨"java/lang/Object", "getClass", "()Ljava/lang/Class;"⟩).before a0 Z = true) (w2 : (Jvm.Cond.declares ⟨"java/lang/Object", "getClass", "()Ljava/lang/Class;"⟩).before a0 Z = true) (w3 : (Jvm.Cond.noSuperclass "java/lang/Object").before a0 Z = true) (w4 : (Jvm.Cond.selects C ⟨"java/lang/Object", "getClass", "()Ljava/lang/Class;"⟩ ⟨"java/lang/Object", "getClass", "()Ljava/lang/Class;"⟩).before a0 Z = true)
    (w5 : (Jvm.Cond.instanceMethod ⟨"java/lang/Object", "getClass", "()Ljava/lang/Class;"⟩).before a0 Z = true) (w6 : (Jvm.Cond.native ⟨"java/lang/Object", "getClass", "()Ljava/lang/Class;"⟩).before a0 Z = true) (eT : T.heap = h) (E : Exa Z h a C) {mr : Addr} (M : own_Mir Z C mr)
    {g : JFrame} (hg : g.method = m) (hsize : g.locals.size = c.maxLocals) {rest : List Value} (hs : g.stack = .ref a :: rest) (hd : decode c.code g.pc = .ok (.invokevirtual index, 3)) (hf : 1 ≤ R.frames) {W : Nat} (hW : 2 * g.monitorRoom + (rest.map fun v => v.category).sum ≤ W) (hl : W + (nativeFrameWords "java/lang/Object" "getClass" 1 + 11) ≤ R.locals) :
    ∃ T', Stand p l e R s m args below meth c T' locs cells slots ∧ T'.heap = h ∧ ∀ target, Steps p.tables e below (T'.setTop { g with pc := g.pc + 3, stack := .ref mr :: rest }) target → Steps p.tables e below (T.setTop g) target := by
  obtain ⟨cB, kB, i1, i2, i3⟩ := isOf hZ eT E
  obtain ⟨cc, kc, m1, m2, m3⟩ := M
  have j1 : s.vm.findClass C = some cc := by rw [hZ.alike.findClass]; exact m1
  obtain rfl : cc = cB := Option.some.inj (j1.symm.trans i1)
  obtain ⟨k', q, ek⟩ := hZ.alike.2.2 _ _ m2
  obtain ⟨vm', X', st⟩ := X.getClassOf hx hown (mvT hZ w1) (mvT hZ w2) (nf_top (args := #[]) (mvT hZ w3)) (mvT hZ w4) (mvT hZ w5) (mvT hZ w6) j1 i3 q (by rw [ek]; exact m3) hg hsize hs hd hf (by omega)
  exact ⟨_, X', eT, st⟩
theorem own_cat {v : Value} (h : v.isRef = true) : v.category = 1 := by cases v <;> simp_all [Value.isRef, Value.category]
theorem own_fits_ref {ty : FieldType} {v : Value} (ht : refKind ty = true) (h : v.isRef = true) : fits ty v = true := by cases ty <;> cases v <;> simp_all [refKind, fits, Value.isRef]
theorem own_all0 : ∀ c ∈ ([] : List Int32), ¬ c < 0 ∧ ¬ (255 : Int32) < c := fun _ q => nomatch q
theorem own_allC {a : Int32} {L : List Int32} (h : ¬ a < 0 ∧ ¬ (255 : Int32) < a) (r : ∀ c ∈ L, ¬ c < 0 ∧ ¬ (255 : Int32) < c) : ∀ c ∈ a :: L, ¬ c < 0 ∧ ¬ (255 : Int32) < c := fun x z => (List.mem_cons.mp z).elim (fun u => u ▸ h) (r x)
theorem own_up {cs : List Int32} (h : ∀ c ∈ cs, ¬ c < 0 ∧ ¬ (255 : Int32) < c) : ∀ c ∈ cs, ¬ c < 0 ∧ ¬ (65535 : Int32) < c := fun c hc => ⟨(h c hc).1, fun q => (h c hc).2 (by rw [Int32.lt_iff_toInt_lt] at q ⊢; have e1 : (65535 : Int32).toInt = 65535 := rfl; have e2 : (255 : Int32).toInt = 255 := rfl; omega)⟩
theorem own_chr (x : Int32) {z : Int32} (h : z = ((x &&& (255 : Int32)).toUInt32.toUInt16.toUInt32.toInt32)) : (¬ z < 0 ∧ ¬ (255 : Int32) < z) ∧ nar .char z = z := by
  subst h
  rw [i2c_mask]
  have h1 : (x &&& (255 : Int32)).toInt = x.toInt % 2 ^ 8 := Jvm.Kit.i32_mask x 255 (k := 8) (by decide) (by decide)
  have e0 : (0 : Int32).toInt = 0 := by decide
  have e1 : (255 : Int32).toInt = 255 := by decide
  refine ⟨⟨?_, ?_⟩, i2c_mask x⟩ <;> rw [Int32.lt_iff_toInt_lt] <;> omega
theorem own_eqv {v : Option Value} {cs ds : List Int32} (h : (v = some (.int 1) ∧ cs = ds) ∨ (v = some (.int 0) ∧ ¬ cs = ds)) : v = some (.int (if cs = ds then (1 : Int32) else 0)) := by
  rcases h with ⟨rfl, h⟩ | ⟨rfl, h⟩
  · rw [if_pos h]
  · rw [if_neg h]
section OwnStr
variable {Z : State} {h h' : Heap} {x t a : Addr} {kb : ClassId} {cs : List Int32} {sl : Nat} {v : Value} {ws : List Addr}
/-- the String at x, her byte[] at t, spells cs -/
def own_Str (Z : State) (h : Heap) (x t : Addr) (kb : ClassId) (cs : List Int32) : Prop :=
  Exa Z h x "java/lang/String" ∧ Fld Z h x "java/lang/String" "value" "[B" (.ref t) ∧ Fld Z h x "java/lang/String" "coder" "B" (.int 0) ∧ Arv Z h t kb .byte (Int32.ofNat cs.length) ((cs.map fun c => c.toInt8.toInt32).map Value.int) (.int 0) ∧ (∀ c ∈ cs, ¬ c < 0 ∧ ¬ (255 : Int32) < c) ∧ cs.length ≤ 4000
theorem own_Str.ext (F : own_Str Z h x t kb cs) (E : Ext h h') : own_Str Z h' x t kb cs := ⟨F.1.ext E, F.2.1.ext E, F.2.2.1.ext E, F.2.2.2.1.ext E, F.2.2.2.2⟩
theorem own_Str.keep (F : own_Str Z h x t kb cs) (K : Keep h h' ws) (q : x ∉ ws) (r : t ∉ ws) : own_Str Z h' x t kb cs := ⟨F.1.keep K, F.2.1.keep K q, F.2.2.1.keep K q, F.2.2.2.1.keep K r, F.2.2.2.2⟩
theorem own_Str.other (F : own_Str Z h x t kb cs) (W : Wr h h' a sl v) (q : x ≠ a) (r : t ≠ a) : own_Str Z h' x t kb cs := ⟨F.1.wr W, F.2.1.other W (Or.inl q), F.2.2.1.other W (Or.inl q), F.2.2.2.1.other W r, F.2.2.2.2⟩
/-- null, or a String -/
def own_NS (Z : State) (h : Heap) (v : Value) : Prop := v = .null ∨ ∃ a, v = .ref a ∧ Exa Z h a "java/lang/String"
theorem own_NS.ref (F : own_NS Z h v) : v.isRef = true := by rcases F with rfl | ⟨a, rfl, -⟩ <;> rfl
theorem own_NS.ext (F : own_NS Z h v) (E : Ext h h') : own_NS Z h' v := F.imp id fun ⟨a, e, X⟩ => ⟨a, e, X.ext E⟩
theorem own_NS.wr {w : Value} (F : own_NS Z h v) (W : Wr h h' a sl w) : own_NS Z h' v := F.imp id fun ⟨a, e, X⟩ => ⟨a, e, X.wr W⟩
theorem own_NS.keep (F : own_NS Z h v) (K : Keep h h' ws) : own_NS Z h' v := F.imp id fun ⟨a, e, X⟩ => ⟨a, e, X.keep K⟩
end OwnStr
theorem own_d_method_2_code_0 : decode method_2_code 0 = .ok (.iload_n 0, 1) := by decide +kernel
theorem own_d_method_2_code_1 : decode method_2_code 1 = .ok (.iconst 3, 1) := by decide +kernel
theorem own_d_method_2_code_2 : decode method_2_code 2 = .ok (.iand, 1) := by decide +kernel
theorem own_d_method_2_code_3 : decode method_2_code 3 = .ok (.istore_n 1, 1) := by decide +kernel
theorem own_d_method_2_code_4 : decode method_2_code 4 = .ok (.iload_n 1, 1) := by decide +kernel
theorem own_d_method_2_code_5 : decode method_2_code 5 = .ok (.ifCond .ne 7, 3) := by decide +kernel
theorem own_d_method_2_code_8 : decode method_2_code 8 = .ok (.getstatic 7, 3) := by decide +kernel
theorem own_d_method_2_code_11 : decode method_2_code 11 = .ok (.areturn, 1) := by decide +kernel
theorem own_d_method_2_code_12 : decode method_2_code 12 = .ok (.iload_n 1, 1) := by decide +kernel
theorem own_d_method_2_code_13 : decode method_2_code 13 = .ok (.iconst 1, 1) := by decide +kernel
theorem own_d_method_2_code_14 : decode method_2_code 14 = .ok (.if_icmp .ne 7, 3) := by decide +kernel
theorem own_d_method_2_code_17 : decode method_2_code 17 = .ok (.getstatic 13, 3) := by decide +kernel
theorem own_d_method_2_code_20 : decode method_2_code 20 = .ok (.areturn, 1) := by decide +kernel
theorem own_d_method_2_code_21 : decode method_2_code 21 = .ok (.iload_n 1, 1) := by decide +kernel
theorem own_d_method_2_code_22 : decode method_2_code 22 = .ok (.iconst 2, 1) := by decide +kernel
theorem own_d_method_2_code_23 : decode method_2_code 23 = .ok (.if_icmp .ne 7, 3) := by decide +kernel
theorem own_d_method_2_code_26 : decode method_2_code 26 = .ok (.getstatic 16, 3) := by decide +kernel
theorem own_d_method_2_code_29 : decode method_2_code 29 = .ok (.areturn, 1) := by decide +kernel
theorem own_d_method_2_code_30 : decode method_2_code 30 = .ok (.getstatic 19, 3) := by decide +kernel
theorem own_d_method_2_code_33 : decode method_2_code 33 = .ok (.areturn, 1) := by decide +kernel
theorem own_d_jdk_30_method_1_code_0 : decode jdk_30_method_1_code 0 = .ok (.aload_n 0, 1) := by decide +kernel
theorem own_d_jdk_30_method_1_code_1 : decode jdk_30_method_1_code 1 = .ok (.invokespecial 1, 3) := by decide +kernel
theorem own_d_jdk_30_method_1_code_4 : decode jdk_30_method_1_code 4 = .ok (.return_, 1) := by decide +kernel
theorem own_d_prog_21_method_1_code_0 : decode prog_21_method_1_code 0 = .ok (.aload_n 0, 1) := by decide +kernel
theorem own_d_prog_21_method_1_code_1 : decode prog_21_method_1_code 1 = .ok (.invokespecial 1, 3) := by decide +kernel
theorem own_pd0 : parseMethodDescriptor "()V" = some ⟨[], none⟩ := by decide +kernel
theorem own_d_prog_21_method_1_code_4 : decode prog_21_method_1_code 4 = .ok (.aload_n 0, 1) := by decide +kernel
theorem own_d_prog_21_method_1_code_5 : decode prog_21_method_1_code 5 = .ok (.aload_n 1, 1) := by decide +kernel
theorem own_d_prog_21_method_1_code_6 : decode prog_21_method_1_code 6 = .ok (.putfield 7, 3) := by decide +kernel
theorem own_d_prog_21_method_1_code_9 : decode prog_21_method_1_code 9 = .ok (.aload_n 0, 1) := by decide +kernel
theorem own_d_prog_21_method_1_code_10 : decode prog_21_method_1_code 10 = .ok (.iload_n 2, 1) := by decide +kernel
theorem own_d_prog_21_method_1_code_11 : decode prog_21_method_1_code 11 = .ok (.putfield 13, 3) := by decide +kernel
theorem own_d_prog_21_method_1_code_14 : decode prog_21_method_1_code 14 = .ok (.aload_n 0, 1) := by decide +kernel
theorem own_d_prog_21_method_1_code_15 : decode prog_21_method_1_code 15 = .ok (.iload_n 3, 1) := by decide +kernel
theorem own_d_prog_21_method_1_code_16 : decode prog_21_method_1_code 16 = .ok (.putfield 17, 3) := by decide +kernel
theorem own_d_prog_21_method_1_code_19 : decode prog_21_method_1_code 19 = .ok (.return_, 1) := by decide +kernel
theorem own_d_prog_20_method_1_code_0 : decode prog_20_method_1_code 0 = .ok (.aload_n 0, 1) := by decide +kernel
theorem own_d_prog_20_method_1_code_1 : decode prog_20_method_1_code 1 = .ok (.invokespecial 1, 3) := by decide +kernel
theorem own_d_prog_20_method_1_code_4 : decode prog_20_method_1_code 4 = .ok (.aload_n 0, 1) := by decide +kernel
theorem own_d_prog_20_method_1_code_5 : decode prog_20_method_1_code 5 = .ok (.aload_n 1, 1) := by decide +kernel
theorem own_d_prog_20_method_1_code_6 : decode prog_20_method_1_code 6 = .ok (.putfield 7, 3) := by decide +kernel
theorem own_d_prog_20_method_1_code_9 : decode prog_20_method_1_code 9 = .ok (.aload_n 0, 1) := by decide +kernel
theorem own_d_prog_20_method_1_code_10 : decode prog_20_method_1_code 10 = .ok (.iload_n 2, 1) := by decide +kernel
theorem own_d_prog_20_method_1_code_11 : decode prog_20_method_1_code 11 = .ok (.putfield 13, 3) := by decide +kernel
theorem own_d_prog_20_method_1_code_14 : decode prog_20_method_1_code 14 = .ok (.aload_n 0, 1) := by decide +kernel
theorem own_d_prog_20_method_1_code_15 : decode prog_20_method_1_code 15 = .ok (.iload_n 3, 1) := by decide +kernel
theorem own_d_prog_20_method_1_code_16 : decode prog_20_method_1_code 16 = .ok (.putfield 17, 3) := by decide +kernel
theorem own_d_prog_20_method_1_code_19 : decode prog_20_method_1_code 19 = .ok (.aload_n 0, 1) := by decide +kernel
theorem own_d_prog_20_method_1_code_20 : decode prog_20_method_1_code 20 = .ok (.aload 4, 2) := by decide +kernel
theorem own_d_prog_20_method_1_code_22 : decode prog_20_method_1_code 22 = .ok (.putfield 20, 3) := by decide +kernel
theorem own_d_prog_20_method_1_code_25 : decode prog_20_method_1_code 25 = .ok (.aload_n 0, 1) := by decide +kernel
theorem own_d_prog_20_method_1_code_26 : decode prog_20_method_1_code 26 = .ok (.aload 5, 2) := by decide +kernel
theorem own_d_prog_20_method_1_code_28 : decode prog_20_method_1_code 28 = .ok (.putfield 24, 3) := by decide +kernel
theorem own_d_prog_20_method_1_code_31 : decode prog_20_method_1_code 31 = .ok (.return_, 1) := by decide +kernel
theorem own_d_prog_21_method_2_code_0 : decode prog_21_method_2_code 0 = .ok (.new 20, 3) := by decide +kernel
theorem own_d_prog_21_method_2_code_3 : decode prog_21_method_2_code 3 = .ok (.dup, 1) := by decide +kernel
theorem own_d_prog_21_method_2_code_4 : decode prog_21_method_2_code 4 = .ok (.aload_n 0, 1) := by decide +kernel
theorem own_d_prog_21_method_2_code_5 : decode prog_21_method_2_code 5 = .ok (.getfield 7, 3) := by decide +kernel
theorem own_d_prog_21_method_2_code_8 : decode prog_21_method_2_code 8 = .ok (.aload_n 0, 1) := by decide +kernel
theorem own_d_prog_21_method_2_code_9 : decode prog_21_method_2_code 9 = .ok (.getfield 13, 3) := by decide +kernel
theorem own_d_prog_21_method_2_code_12 : decode prog_21_method_2_code 12 = .ok (.aload_n 0, 1) := by decide +kernel
theorem own_d_prog_21_method_2_code_13 : decode prog_21_method_2_code 13 = .ok (.getfield 17, 3) := by decide +kernel
theorem own_d_prog_21_method_2_code_16 : decode prog_21_method_2_code 16 = .ok (.aload_n 1, 1) := by decide +kernel
theorem own_d_prog_21_method_2_code_17 : decode prog_21_method_2_code 17 = .ok (.aload_n 2, 1) := by decide +kernel
theorem own_d_prog_21_method_2_code_18 : decode prog_21_method_2_code 18 = .ok (.invokespecial 22, 3) := by decide +kernel
theorem own_pd1 : parseMethodDescriptor "(Ljava/lang/String;IILcom/example/anteroom/anteroom/rules/Rule;Ljava/lang/String;)V" = some ⟨[(.object "java/lang/String"), .int, .int, (.object "com/example/anteroom/anteroom/rules/Rule"), (.object "java/lang/String")], none⟩ := by decide +kernel
theorem own_d_prog_21_method_2_code_21 : decode prog_21_method_2_code 21 = .ok (.areturn, 1) := by decide +kernel
theorem own_d_prog_20_method_7_code_0 : decode prog_20_method_7_code 0 = .ok (.aload_n 0, 1) := by decide +kernel
theorem own_d_prog_20_method_7_code_1 : decode prog_20_method_7_code 1 = .ok (.getfield 7, 3) := by decide +kernel
theorem own_d_prog_20_method_7_code_4 : decode prog_20_method_7_code 4 = .ok (.areturn, 1) := by decide +kernel
theorem own_d_prog_20_method_8_code_0 : decode prog_20_method_8_code 0 = .ok (.aload_n 0, 1) := by decide +kernel
theorem own_d_prog_20_method_8_code_1 : decode prog_20_method_8_code 1 = .ok (.getfield 13, 3) := by decide +kernel
theorem own_d_prog_20_method_8_code_4 : decode prog_20_method_8_code 4 = .ok (.ireturn, 1) := by decide +kernel
theorem own_d_prog_20_method_9_code_0 : decode prog_20_method_9_code 0 = .ok (.aload_n 0, 1) := by decide +kernel
theorem own_d_prog_20_method_9_code_1 : decode prog_20_method_9_code 1 = .ok (.getfield 17, 3) := by decide +kernel
theorem own_d_prog_20_method_9_code_4 : decode prog_20_method_9_code 4 = .ok (.ireturn, 1) := by decide +kernel
theorem own_d_prog_20_method_10_code_0 : decode prog_20_method_10_code 0 = .ok (.aload_n 0, 1) := by decide +kernel
theorem own_d_prog_20_method_10_code_1 : decode prog_20_method_10_code 1 = .ok (.getfield 20, 3) := by decide +kernel
theorem own_d_prog_20_method_10_code_4 : decode prog_20_method_10_code 4 = .ok (.areturn, 1) := by decide +kernel
theorem own_d_prog_20_method_11_code_0 : decode prog_20_method_11_code 0 = .ok (.aload_n 0, 1) := by decide +kernel
theorem own_d_prog_20_method_11_code_1 : decode prog_20_method_11_code 1 = .ok (.getfield 24, 3) := by decide +kernel
theorem own_d_prog_20_method_11_code_4 : decode prog_20_method_11_code 4 = .ok (.areturn, 1) := by decide +kernel
theorem own_d_jdk_42_method_66_code_0 : decode jdk_42_method_66_code 0 = .ok (.aload_n 0, 1) := by decide +kernel
theorem own_d_jdk_42_method_66_code_1 : decode jdk_42_method_66_code 1 = .ok (.aload_n 1, 1) := by decide +kernel
theorem own_d_jdk_42_method_66_code_2 : decode jdk_42_method_66_code 2 = .ok (.if_acmp .ne 5, 3) := by decide +kernel
theorem own_d_jdk_42_method_66_code_5 : decode jdk_42_method_66_code 5 = .ok (.iconst 1, 1) := by decide +kernel
theorem own_d_jdk_42_method_66_code_6 : decode jdk_42_method_66_code 6 = .ok (.ireturn, 1) := by decide +kernel
theorem own_in_words : ∀ d ∈ StrChars.Road.words, d ∈ tables_1 := by decide +kernel
theorem own_pd2 : parseMethodDescriptor "([C)V" = some ⟨[(.array .char)], none⟩ := by decide +kernel
theorem own_pd3 : parseMethodDescriptor "(I)Lcom/example/anteroom/anteroom/rules/Rule;" = some ⟨[.int], some (.object "com/example/anteroom/anteroom/rules/Rule")⟩ := by decide +kernel
theorem own_pd4 : parseMethodDescriptor "(Ljava/lang/String;II)V" = some ⟨[(.object "java/lang/String"), .int, .int], none⟩ := by decide +kernel
theorem own_pd5 : parseMethodDescriptor "(Lcom/example/anteroom/anteroom/rules/Rule;Ljava/lang/String;)Lcom/example/anteroom/anteroom/rules/Finding;" = some ⟨[(.object "com/example/anteroom/anteroom/rules/Rule"), (.object "java/lang/String")], some (.object "com/example/anteroom/anteroom/rules/Finding")⟩ := by decide +kernel
theorem own_pd6 : parseMethodDescriptor "()Ljava/lang/String;" = some ⟨[], some (.object "java/lang/String")⟩ := by decide +kernel
theorem own_pd7 : parseMethodDescriptor "(Ljava/lang/Object;)Z" = some ⟨[(.object "java/lang/Object")], some .boolean⟩ := by decide +kernel
theorem own_pd8 : parseMethodDescriptor "()I" = some ⟨[], some .int⟩ := by decide +kernel
theorem own_pd9 : parseMethodDescriptor "()Lcom/example/anteroom/anteroom/rules/Rule;" = some ⟨[], some (.object "com/example/anteroom/anteroom/rules/Rule")⟩ := by decide +kernel
theorem own_pn_own_pick : plainName "com/example/anteroom/anteroom/rules/PlaceFindingPinLaw" = true := by first | (simp [plainName, overriddenIn]; done) | decide +kernel
theorem own_ef_own_pick (m : MethodId) (i : Int32) : entryFrame m #[(.int i)] 2 = mkF m 0 #[.val (.int i), .unset] [] := by first | (simp [entryFrame, mkF, argsToLocals, own_cI, own_cJ, own_cR, own_cN]; done) | rfl
abbrev own_F_own_pick (m : MethodId) (i : Int32) : JFrame := entryFrame m #[(.int i)] 2
def Q_own_pick (Z : State) (i : Int32) (u0 : Addr) (u1 : Addr) (u2 : Addr) (u3 : Addr) (h0 : Heap) (n0 : Nat) (v : Option Value) (h : Heap) (L : List Loc) : Prop := ∃ (kd : Addr), v = some (.ref kd) ∧ Fr n0 L ∧ h = h0
set_option maxRecDepth 65536 in
set_option maxHeartbeats 40000000 in
theorem own_pick (l : Launch) (Z : State) (a0 : Array Value) (hw : ∀ d ∈ tables_1, d.before a0 Z = true) (ws : List Jvm.Cond) (i : Int32) (u0 : Addr) (u1 : Addr) (u2 : Addr) (u3 : Addr) (h0 : Heap) (n0 : Nat) (O0 : Old Z n0 h0) (hp0 : Sta Z Z.heap "com/example/anteroom/anteroom/rules/Rule" "PARSE" "Lcom/example/anteroom/anteroom/rules/Rule;" (.ref u0)) (hp1 : Sta Z Z.heap "com/example/anteroom/anteroom/rules/Rule" "UNRESOLVED_SUPERTYPE" "Lcom/example/anteroom/anteroom/rules/Rule;" (.ref u1)) (hp2 : Sta Z Z.heap "com/example/anteroom/anteroom/rules/Rule" "EARLY_THIS" "Lcom/example/anteroom/anteroom/rules/Rule;" (.ref u2)) (hp3 : Sta Z Z.heap "com/example/anteroom/anteroom/rules/Rule" "NOT_JUDGED" "Lcom/example/anteroom/anteroom/rules/Rule;" (.ref u3)) :
    MetFree l (⟨"com/example/anteroom/anteroom/rules/PlaceFindingPinLaw", "pick", "(I)Lcom/example/anteroom/anteroom/rules/Rule;"⟩ : MethodName) (head1 (Jvm.Cond.code (⟨"com/example/anteroom/anteroom/rules/PlaceFindingPinLaw", "pick", "(I)Lcom/example/anteroom/anteroom/rules/Rule;"⟩ : MethodName) method_2_code 2 (some (.object "com/example/anteroom/anteroom/rules/Rule")) :: ws) ({ frames := 0, cells := 0, slots := 0, locals := 0 } : Room)) (fun aa_ U_ => aa_ = #[(.int i)] ∧ Z.Warmed39 U_.vm ∧ U_.heap = h0) (fun _ _ _ _ _ => True) (fun _ U_ o_ V_ => ∃ v_ L_, o_ = .returned v_ ∧ Q_own_pick Z i u0 u1 u2 u3 h0 n0 v_ V_.heap L_ ∧ FrameEnd U_ o_ V_ L_ ({ frames := 0, cells := 0, slots := 0, locals := 0 } : Room).cells ({ frames := 0, cells := 0, slots := 0, locals := 0 } : Room).slots) := by
  refine MetFree.of_bodySF (plainFor_of_name own_pn_own_pick) hisR ?_
  intro p e s m args below meth c s₁ Bd hml0 hP hK
  obtain ⟨rfl, hZ, hh⟩ := hP
  have hx := Bd.exec
  have hby := Bd.bytes
  have hml : c.maxLocals = 2 := hml0
  have hown : s.vm.findClass "com/example/anteroom/anteroom/rules/PlaceFindingPinLaw" = some m.cls := findClass_of_methodNamed Bd.named
  have hnm := (name_of_methodNamed Bd.named Bd.method).1
  have X0 : Stand p l e ({ frames := 0, cells := 0, slots := 0, locals := 0 } : Room) s m #[(.int i)] below meth c s₁ [] 0 0 := Stand.of_body Bd
  have e0 : s₁.heap = h0 := by rw [← hh, Bd.state]; rfl
  have N0 := Fr.nil n0
  have K0 : Keep h0 h0 [] := Keep.refl _ _
  have r0 : GoTo p.tables e below s₁ (own_F_own_pick m i) s₁ (mkF m 0 #[.val (.int i), .unset] []) := fun tt_ kk_ => castTop (own_ef_own_pick m i) kk_
  have r1 : GoTo p.tables e below s₁ (own_F_own_pick m i) s₁ (mkF m 5 #[.val (.int i), .val (.int (i &&& (3 : Int32)))] [(.int (i &&& (3 : Int32)))]) := fun tt_ kk_ => r0 tt_ (by
      show Steps p.tables e below (s₁.setTop (mkF m 0 #[.val (.int i), .unset] [])) _
      refine XS.iloadN X0.here hx rfl (hb hby own_d_method_2_code_0) rfl ?_
      show Steps p.tables e below (s₁.setTop (mkF m 1 #[.val (.int i), .unset] [(.int i)])) _
      refine XS.iconst X0.here hx rfl (hb hby own_d_method_2_code_1) ?_
      show Steps p.tables e below (s₁.setTop (mkF m 2 #[.val (.int i), .unset] [(.int (3 : Int32)), (.int i)])) _
      refine XS.iand X0.here hx rfl (hb hby own_d_method_2_code_2) rfl ?_
      show Steps p.tables e below (s₁.setTop (mkF m 3 #[.val (.int i), .unset] [(.int (i &&& (3 : Int32)))])) _
      refine XS.istoreN X0.here hx rfl (hb hby own_d_method_2_code_3) rfl (l' := #[.val (.int i), .val (.int (i &&& (3 : Int32)))]) rfl ?_
      show Steps p.tables e below (s₁.setTop (mkF m 4 #[.val (.int i), .val (.int (i &&& (3 : Int32)))] [])) _
      refine XS.iloadN X0.here hx rfl (hb hby own_d_method_2_code_4) rfl ?_
      show Steps p.tables e below (s₁.setTop (mkF m 5 #[.val (.int i), .val (.int (i &&& (3 : Int32)))] [(.int (i &&& (3 : Int32)))])) _
      exact kk_)
  by_cases hc2 : (i &&& (3 : Int32)) = (0 : Int32)
  · obtain ⟨T3, X3, e3, st3⟩ := getS2 X0 hx hZ hown (host := "") (Or.inl (hw _ (List.mem_of_getElem? (i := 34) rfl))) Via.refl e0 (hp0.ext (O0.keep K0 all0).2) (g := (mkF m 8 #[.val (.int i), .val (.int (i &&& (3 : Int32)))] [])) rfl (hb hby own_d_method_2_code_8)
    obtain ⟨fs, hr, hrun, hended, hW, hsame⟩ := X3.leave (v := some (.ref u0)) (fun h => by rw [Bd.returns] at h; cases h)
    refine ⟨_, _, r1 _ ?_, hrun, hended, _, _, rfl, ?_, ⟨_, rfl⟩, hW, hsame.mono (by decide) (by decide)⟩
    · show Steps p.tables e below (s₁.setTop (mkF m 5 #[.val (.int i), .val (.int (i &&& (3 : Int32)))] [(.int (i &&& (3 : Int32)))])) _
      refine XS.ifNo X0.here hx rfl (hb hby own_d_method_2_code_5) rfl ((if0 _ _).trans (teq hc2).2) ?_
      show Steps p.tables e below (s₁.setTop (mkF m 8 #[.val (.int i), .val (.int (i &&& (3 : Int32)))] [])) _
      refine st3 _ ?_
      show Steps p.tables e below (T3.setTop (mkF m 11 #[.val (.int i), .val (.int (i &&& (3 : Int32)))] [(.ref u0)])) _
      exact retOut X3 hx (t := (.object "com/example/anteroom/anteroom/rules/Rule")) Bd.returns rfl (Or.inr (Or.inr (Or.inr (Or.inr ⟨rfl, rfl, rfl⟩)))) (hb hby own_d_method_2_code_11) hr
    · show Q_own_pick Z i u0 u1 u2 u3 h0 n0 _ T3.heap _
      rw [e3]
      exact ⟨u0, rfl, N0, rfl⟩
  · have r4 : GoTo p.tables e below s₁ (own_F_own_pick m i) s₁ (mkF m 14 #[.val (.int i), .val (.int (i &&& (3 : Int32)))] [(.int (1 : Int32)), (.int (i &&& (3 : Int32)))]) := fun tt_ kk_ => r1 tt_ (by
        show Steps p.tables e below (s₁.setTop (mkF m 5 #[.val (.int i), .val (.int (i &&& (3 : Int32)))] [(.int (i &&& (3 : Int32)))])) _
        refine XS.ifYes X0.here hx rfl (pc0 := 5) (pc' := 12) rfl (hb hby own_d_method_2_code_5) rfl ((if0 _ _).trans (feq hc2).2) (by decide) (by decide) ?_
        show Steps p.tables e below (s₁.setTop (mkF m 12 #[.val (.int i), .val (.int (i &&& (3 : Int32)))] [])) _
        refine XS.iloadN X0.here hx rfl (hb hby own_d_method_2_code_12) rfl ?_
        show Steps p.tables e below (s₁.setTop (mkF m 13 #[.val (.int i), .val (.int (i &&& (3 : Int32)))] [(.int (i &&& (3 : Int32)))])) _
        refine XS.iconst X0.here hx rfl (hb hby own_d_method_2_code_13) ?_
        show Steps p.tables e below (s₁.setTop (mkF m 14 #[.val (.int i), .val (.int (i &&& (3 : Int32)))] [(.int (1 : Int32)), (.int (i &&& (3 : Int32)))])) _
        exact kk_)
    by_cases hc5 : (i &&& (3 : Int32)) = (1 : Int32)
    · obtain ⟨T6, X6, e6, st6⟩ := getS2 X0 hx hZ hown (host := "") (Or.inl (hw _ (List.mem_of_getElem? (i := 109) rfl))) Via.refl e0 (hp1.ext (O0.keep K0 all0).2) (g := (mkF m 17 #[.val (.int i), .val (.int (i &&& (3 : Int32)))] [])) rfl (hb hby own_d_method_2_code_17)
      obtain ⟨fs, hr, hrun, hended, hW, hsame⟩ := X6.leave (v := some (.ref u1)) (fun h => by rw [Bd.returns] at h; cases h)
      refine ⟨_, _, r4 _ ?_, hrun, hended, _, _, rfl, ?_, ⟨_, rfl⟩, hW, hsame.mono (by decide) (by decide)⟩
      · show Steps p.tables e below (s₁.setTop (mkF m 14 #[.val (.int i), .val (.int (i &&& (3 : Int32)))] [(.int (1 : Int32)), (.int (i &&& (3 : Int32)))])) _
        refine XS.icmpNo X0.here hx rfl (hb hby own_d_method_2_code_14) rfl (teq hc5).2 ?_
        show Steps p.tables e below (s₁.setTop (mkF m 17 #[.val (.int i), .val (.int (i &&& (3 : Int32)))] [])) _
        refine st6 _ ?_
        show Steps p.tables e below (T6.setTop (mkF m 20 #[.val (.int i), .val (.int (i &&& (3 : Int32)))] [(.ref u1)])) _
        exact retOut X6 hx (t := (.object "com/example/anteroom/anteroom/rules/Rule")) Bd.returns rfl (Or.inr (Or.inr (Or.inr (Or.inr ⟨rfl, rfl, rfl⟩)))) (hb hby own_d_method_2_code_20) hr
      · show Q_own_pick Z i u0 u1 u2 u3 h0 n0 _ T6.heap _
        rw [e6]
        exact ⟨u1, rfl, N0, rfl⟩
    · have r7 : GoTo p.tables e below s₁ (own_F_own_pick m i) s₁ (mkF m 23 #[.val (.int i), .val (.int (i &&& (3 : Int32)))] [(.int (2 : Int32)), (.int (i &&& (3 : Int32)))]) := fun tt_ kk_ => r4 tt_ (by
          show Steps p.tables e below (s₁.setTop (mkF m 14 #[.val (.int i), .val (.int (i &&& (3 : Int32)))] [(.int (1 : Int32)), (.int (i &&& (3 : Int32)))])) _
          refine XS.icmpYes X0.here hx rfl (pc0 := 14) (pc' := 21) rfl (hb hby own_d_method_2_code_14) rfl (feq hc5).2 (by decide) (by decide) ?_
          show Steps p.tables e below (s₁.setTop (mkF m 21 #[.val (.int i), .val (.int (i &&& (3 : Int32)))] [])) _
          refine XS.iloadN X0.here hx rfl (hb hby own_d_method_2_code_21) rfl ?_
          show Steps p.tables e below (s₁.setTop (mkF m 22 #[.val (.int i), .val (.int (i &&& (3 : Int32)))] [(.int (i &&& (3 : Int32)))])) _
          refine XS.iconst X0.here hx rfl (hb hby own_d_method_2_code_22) ?_
          show Steps p.tables e below (s₁.setTop (mkF m 23 #[.val (.int i), .val (.int (i &&& (3 : Int32)))] [(.int (2 : Int32)), (.int (i &&& (3 : Int32)))])) _
          exact kk_)
      by_cases hc8 : (i &&& (3 : Int32)) = (2 : Int32)
      · obtain ⟨T9, X9, e9, st9⟩ := getS2 X0 hx hZ hown (host := "") (Or.inl (hw _ (List.mem_of_getElem? (i := 111) rfl))) Via.refl e0 (hp2.ext (O0.keep K0 all0).2) (g := (mkF m 26 #[.val (.int i), .val (.int (i &&& (3 : Int32)))] [])) rfl (hb hby own_d_method_2_code_26)
        obtain ⟨fs, hr, hrun, hended, hW, hsame⟩ := X9.leave (v := some (.ref u2)) (fun h => by rw [Bd.returns] at h; cases h)
        refine ⟨_, _, r7 _ ?_, hrun, hended, _, _, rfl, ?_, ⟨_, rfl⟩, hW, hsame.mono (by decide) (by decide)⟩
        · show Steps p.tables e below (s₁.setTop (mkF m 23 #[.val (.int i), .val (.int (i &&& (3 : Int32)))] [(.int (2 : Int32)), (.int (i &&& (3 : Int32)))])) _
          refine XS.icmpNo X0.here hx rfl (hb hby own_d_method_2_code_23) rfl (teq hc8).2 ?_
          show Steps p.tables e below (s₁.setTop (mkF m 26 #[.val (.int i), .val (.int (i &&& (3 : Int32)))] [])) _
          refine st9 _ ?_
          show Steps p.tables e below (T9.setTop (mkF m 29 #[.val (.int i), .val (.int (i &&& (3 : Int32)))] [(.ref u2)])) _
          exact retOut X9 hx (t := (.object "com/example/anteroom/anteroom/rules/Rule")) Bd.returns rfl (Or.inr (Or.inr (Or.inr (Or.inr ⟨rfl, rfl, rfl⟩)))) (hb hby own_d_method_2_code_29) hr
        · show Q_own_pick Z i u0 u1 u2 u3 h0 n0 _ T9.heap _
          rw [e9]
          exact ⟨u2, rfl, N0, rfl⟩
      · obtain ⟨T10, X10, e10, st10⟩ := getS2 X0 hx hZ hown (host := "") (Or.inl (hw _ (List.mem_of_getElem? (i := 107) rfl))) Via.refl e0 (hp3.ext (O0.keep K0 all0).2) (g := (mkF m 30 #[.val (.int i), .val (.int (i &&& (3 : Int32)))] [])) rfl (hb hby own_d_method_2_code_30)
        obtain ⟨fs, hr, hrun, hended, hW, hsame⟩ := X10.leave (v := some (.ref u3)) (fun h => by rw [Bd.returns] at h; cases h)
        refine ⟨_, _, r7 _ ?_, hrun, hended, _, _, rfl, ?_, ⟨_, rfl⟩, hW, hsame.mono (by decide) (by decide)⟩
        · show Steps p.tables e below (s₁.setTop (mkF m 23 #[.val (.int i), .val (.int (i &&& (3 : Int32)))] [(.int (2 : Int32)), (.int (i &&& (3 : Int32)))])) _
          refine XS.icmpYes X0.here hx rfl (pc0 := 23) (pc' := 30) rfl (hb hby own_d_method_2_code_23) rfl (feq hc8).2 (by decide) (by decide) ?_
          show Steps p.tables e below (s₁.setTop (mkF m 30 #[.val (.int i), .val (.int (i &&& (3 : Int32)))] [])) _
          refine st10 _ ?_
          show Steps p.tables e below (T10.setTop (mkF m 33 #[.val (.int i), .val (.int (i &&& (3 : Int32)))] [(.ref u3)])) _
          exact retOut X10 hx (t := (.object "com/example/anteroom/anteroom/rules/Rule")) Bd.returns rfl (Or.inr (Or.inr (Or.inr (Or.inr ⟨rfl, rfl, rfl⟩)))) (hb hby own_d_method_2_code_33) hr
        · show Q_own_pick Z i u0 u1 u2 u3 h0 n0 _ T10.heap _
          rw [e10]
          exact ⟨u3, rfl, N0, rfl⟩
theorem own_pn_own_rec : plainName "java/lang/Record" = true := by first | (simp [plainName, overriddenIn]; done) | decide +kernel
theorem own_ef_own_rec (m : MethodId) (a : Addr) : entryFrame m #[(.ref a)] 1 = mkF m 0 #[.val (.ref a)] [] := by first | (simp [entryFrame, mkF, argsToLocals, own_cI, own_cJ, own_cR, own_cN]; done) | rfl
abbrev own_F_own_rec (m : MethodId) (a : Addr) : JFrame := entryFrame m #[(.ref a)] 1
def Q_own_rec (Z : State) (a : Addr) (h0 : Heap) (n0 : Nat) (v : Option Value) (h : Heap) (L : List Loc) : Prop := v = none ∧ Fr n0 L ∧ h = h0
set_option maxRecDepth 65536 in
set_option maxHeartbeats 40000000 in
theorem own_rec (l : Launch) (Z : State) (a0 : Array Value) (hw : ∀ d ∈ tables_1, d.before a0 Z = true) (ws : List Jvm.Cond) (a : Addr) (h0 : Heap) (n0 : Nat) (O0 : Old Z n0 h0) :
    MetFree l (⟨"java/lang/Record", "<init>", "()V"⟩ : MethodName) (head1 (Jvm.Cond.code (⟨"java/lang/Record", "<init>", "()V"⟩ : MethodName) jdk_30_method_1_code 1 none :: ws) ({ frames := 1, cells := 0, slots := 0, locals := 12 } : Room)) (fun aa_ U_ => aa_ = #[(.ref a)] ∧ Z.Warmed39 U_.vm ∧ U_.heap = h0) (fun _ _ _ _ _ => True) (fun _ U_ o_ V_ => ∃ v_ L_, o_ = .returned v_ ∧ Q_own_rec Z a h0 n0 v_ V_.heap L_ ∧ FrameEnd U_ o_ V_ L_ ({ frames := 1, cells := 0, slots := 0, locals := 12 } : Room).cells ({ frames := 1, cells := 0, slots := 0, locals := 12 } : Room).slots) := by
  refine MetFree.of_bodySF (plainFor_of_name own_pn_own_rec) hisR ?_
  intro p e s m args below meth c s₁ Bd hml0 hP hK
  obtain ⟨rfl, hZ, hh⟩ := hP
  have hx := Bd.exec
  have hby := Bd.bytes
  have hml : c.maxLocals = 1 := hml0
  have hown : s.vm.findClass "java/lang/Record" = some m.cls := findClass_of_methodNamed Bd.named
  have hnm := (name_of_methodNamed Bd.named Bd.method).1
  have X0 : Stand p l e ({ frames := 1, cells := 0, slots := 0, locals := 12 } : Room) s m #[(.ref a)] below meth c s₁ [] 0 0 := Stand.of_body Bd
  have e0 : s₁.heap = h0 := by rw [← hh, Bd.state]; rfl
  have N0 := Fr.nil n0
  have K0 : Keep h0 h0 [] := Keep.refl _ _
  have r0 : GoTo p.tables e below s₁ (own_F_own_rec m a) s₁ (mkF m 0 #[.val (.ref a)] []) := fun tt_ kk_ => castTop (own_ef_own_rec m a) kk_
  obtain ⟨T1, X1, e1, st1⟩ := initO X0 hx hZ hown (hw _ (List.mem_of_getElem? (i := 48) rfl)) (hw _ (List.mem_of_getElem? (i := 12) rfl)) (hw _ (List.mem_of_getElem? (i := 13) rfl)) e0 (g := (mkF m 1 #[.val (.ref a)] [(.ref a)])) rfl (by rw [hml]; rfl) rfl (hb hby own_d_jdk_30_method_1_code_1) (by decide) (W := 0) (by show 2 * 0 + _ ≤ _; exact Nat.le_of_eq rfl) (by decide)
  obtain ⟨fs, hr, hrun, hended, hW, hsame⟩ := X1.leave (v := none) (fun _ => rfl)
  refine ⟨_, _, r0 _ ?_, hrun, hended, _, _, rfl, ?_, ⟨_, rfl⟩, hW, hsame.mono (by decide) (by decide)⟩
  · show Steps p.tables e below (s₁.setTop (mkF m 0 #[.val (.ref a)] [])) _
    refine XS.aloadN X0.here hx rfl (hb hby own_d_jdk_30_method_1_code_0) rfl rfl ?_
    show Steps p.tables e below (s₁.setTop (mkF m 1 #[.val (.ref a)] [(.ref a)])) _
    refine st1 _ ?_
    show Steps p.tables e below (T1.setTop (mkF m 4 #[.val (.ref a)] [])) _
    exact X1.returnOut hx Bd.returns (hb hby own_d_jdk_30_method_1_code_4) hr
  · show Q_own_rec Z a h0 n0 _ T1.heap _
    rw [e1]
    exact ⟨rfl, N0, rfl⟩
theorem own_pn_own_pinit : plainName "com/example/anteroom/anteroom/rules/Place" = true := by first | (simp [plainName, overriddenIn]; done) | decide +kernel
theorem own_ef_own_pinit (m : MethodId) (a : Addr) (x0 : Addr) (x1 : Int32) (x2 : Int32) : entryFrame m #[(.ref a), (.ref x0), (.int x1), (.int x2)] 4 = mkF m 0 #[.val (.ref a), .val (.ref x0), .val (.int x1), .val (.int x2)] [] := by first | (simp [entryFrame, mkF, argsToLocals, own_cI, own_cJ, own_cR, own_cN]; done) | rfl
abbrev own_F_own_pinit (m : MethodId) (a : Addr) (x0 : Addr) (x1 : Int32) (x2 : Int32) : JFrame := entryFrame m #[(.ref a), (.ref x0), (.int x1), (.int x2)] 4
def Q_own_pinit (Z : State) (a : Addr) (x0 : Addr) (x1 : Int32) (x2 : Int32) (h0 : Heap) (n0 : Nat) (v : Option Value) (h : Heap) (L : List Loc) : Prop := v = none ∧ Fr n0 L ∧ Keep h0 h [a] ∧ (Exa Z h a "com/example/anteroom/anteroom/rules/Place") ∧ (Fld Z h a "com/example/anteroom/anteroom/rules/Place" "path" "Ljava/lang/String;" (.ref x0)) ∧ (Fld Z h a "com/example/anteroom/anteroom/rules/Place" "line" "I" (.int x1)) ∧ (Fld Z h a "com/example/anteroom/anteroom/rules/Place" "column" "I" (.int x2))
set_option maxRecDepth 65536 in
set_option maxHeartbeats 40000000 in
theorem own_pinit (l : Launch) (Z : State) (a0 : Array Value) (hw : ∀ d ∈ tables_1, d.before a0 Z = true) (ws : List Jvm.Cond) (a : Addr) (x0 : Addr) (x1 : Int32) (x2 : Int32) (h0 : Heap) (n0 : Nat) (O0 : Old Z n0 h0) (hp0 : Exa Z h0 a "com/example/anteroom/anteroom/rules/Place") (hp1 : n0 ≤ a) (hp2 : Fld Z h0 a "com/example/anteroom/anteroom/rules/Place" "path" "Ljava/lang/String;" .null) (hp3 : Fld Z h0 a "com/example/anteroom/anteroom/rules/Place" "line" "I" (.int (0 : Int32))) (hp4 : Fld Z h0 a "com/example/anteroom/anteroom/rules/Place" "column" "I" (.int (0 : Int32))) :
    MetFree l (⟨"com/example/anteroom/anteroom/rules/Place", "<init>", "(Ljava/lang/String;II)V"⟩ : MethodName) (head1 (Jvm.Cond.code (⟨"com/example/anteroom/anteroom/rules/Place", "<init>", "(Ljava/lang/String;II)V"⟩ : MethodName) prog_21_method_1_code 4 none :: ws) ({ frames := 2, cells := 0, slots := 0, locals := 24 } : Room)) (fun aa_ U_ => aa_ = #[(.ref a), (.ref x0), (.int x1), (.int x2)] ∧ Z.Warmed39 U_.vm ∧ U_.heap = h0) (fun _ _ _ _ _ => True) (fun _ U_ o_ V_ => ∃ v_ L_, o_ = .returned v_ ∧ Q_own_pinit Z a x0 x1 x2 h0 n0 v_ V_.heap L_ ∧ FrameEnd U_ o_ V_ L_ ({ frames := 2, cells := 0, slots := 0, locals := 24 } : Room).cells ({ frames := 2, cells := 0, slots := 0, locals := 24 } : Room).slots) := by
  refine MetFree.of_bodySF (plainFor_of_name own_pn_own_pinit) hisR ?_
  intro p e s m args below meth c s₁ Bd hml0 hP hK
  obtain ⟨rfl, hZ, hh⟩ := hP
  have hx := Bd.exec
  have hby := Bd.bytes
  have hml : c.maxLocals = 4 := hml0
  have hown : s.vm.findClass "com/example/anteroom/anteroom/rules/Place" = some m.cls := findClass_of_methodNamed Bd.named
  have hnm := (name_of_methodNamed Bd.named Bd.method).1
  have X0 : Stand p l e ({ frames := 2, cells := 0, slots := 0, locals := 24 } : Room) s m #[(.ref a), (.ref x0), (.int x1), (.int x2)] below meth c s₁ [] 0 0 := Stand.of_body Bd
  have e0 : s₁.heap = h0 := by rw [← hh, Bd.state]; rfl
  have N0 := Fr.nil n0
  have K0 : Keep h0 h0 [a] := Keep.refl _ _
  have r0 : GoTo p.tables e below s₁ (own_F_own_pinit m a x0 x1 x2) s₁ (mkF m 0 #[.val (.ref a), .val (.ref x0), .val (.int x1), .val (.int x2)] []) := fun tt_ kk_ => castTop (own_ef_own_pinit m a x0 x1 x2) kk_
  obtain ⟨_, _, ⟨T1, L1, k1, n1⟩, -, X1, ⟨Lc1, hQ1, l1, y1, z1⟩, st1⟩ := X0.specialBack hx (y := (⟨"java/lang/Record", "<init>", "()V"⟩ : MethodName)) rfl hown (mvT hZ (hw _ (List.mem_of_getElem? (i := 43) rfl))) (mvT hZ (hw _ (List.mem_of_getElem? (i := 44) rfl))) (mvT hZ (hw _ (List.mem_of_getElem? (i := 47) rfl))) (by decide) (backOf (W := 0) (own_rec l Z a0 hw [] (a) h0 n0 (O0.keep K0 (allS hp1 all0))) hZ (hw _ (List.mem_of_getElem? (i := 47) rfl)) (hw _ (List.mem_of_getElem? (i := 46) rfl)) (by decide) (by decide)) (g := (mkF m 1 #[.val (.ref a), .val (.ref x0), .val (.int x1), .val (.int x2)] [(.ref a)])) rfl (by rw [hml]; rfl) (Steps.refl _) (a := a) (argsL := []) (rest := []) (lenOf own_pd0 rfl) rfl (by show 2 * 0 + _ ≤ _; exact Nat.le_of_eq rfl) (hb hby own_d_prog_21_method_1_code_1) (fun _ _ => ⟨rfl, e0, (by decide : 0 + 0 ≤ _), (by decide : 0 + 0 ≤ _)⟩)
  dsimp only [Pt.U, Pt.locs, Pt.cells, Pt.slots] at X1 l1 y1 z1 st1 hQ1
  subst l1 y1 z1
  obtain ⟨rfl, Nq1, hh1⟩ := hQ1
  have N1 := Fr.app N0 Nq1
  obtain ⟨T2, h2, X2, e2, W2, st2⟩ := putF X1 hx hZ hown (host := "") (Or.inl (hw _ (List.mem_of_getElem? (i := 49) rfl))) Via.refl hh1 hp2 hp0 (Or.inr ⟨(hw _ (List.mem_of_getElem? (i := 50) rfl)), rfl, hnm⟩) (hw _ (List.mem_of_getElem? (i := 38) rfl)) (ty := (.object "java/lang/String")) (by decide) rfl rfl (g := (mkF m 6 #[.val (.ref a), .val (.ref x0), .val (.int x1), .val (.int x2)] [(.ref x0), (.ref a)])) rfl rfl (hb hby own_d_prog_21_method_1_code_6)
  have K3 : Keep h0 h2 [a] := K0.wr W2 (Or.inl (List.mem_of_getElem? (i := 0) rfl))
  have Fw2 : Fld Z h2 a "com/example/anteroom/anteroom/rules/Place" "path" "Ljava/lang/String;" (.ref x0) := hp2.same W2
  have N2 := Fr.snoc X2 N1 hp1
  have f4 : Fld Z h2 a "com/example/anteroom/anteroom/rules/Place" "line" "I" (.int (0 : Int32)) := (hp3.other W2 (Or.inr (Jvm.RoadKit.slot_ne (Or.inr (hw _ (List.mem_of_getElem? (i := 52) rfl))) (Or.inr (hw _ (List.mem_of_getElem? (i := 50) rfl))) (by decide) (t := .int) (t' := (.object "java/lang/String")) (by decide) (by decide))))
  have f5 : Exa Z h2 a "com/example/anteroom/anteroom/rules/Place" := (hp0.wr W2)
  obtain ⟨T6, h6, X6, e6, W6, st6⟩ := putF X2 hx hZ hown (host := "") (Or.inl (hw _ (List.mem_of_getElem? (i := 51) rfl))) Via.refl e2 f4 f5 (Or.inr ⟨(hw _ (List.mem_of_getElem? (i := 52) rfl)), rfl, hnm⟩) (hw _ (List.mem_of_getElem? (i := 38) rfl)) (ty := .int) (by decide) rfl rfl (g := (mkF m 11 #[.val (.ref a), .val (.ref x0), .val (.int x1), .val (.int x2)] [(.int x1), (.ref a)])) rfl rfl (hb hby own_d_prog_21_method_1_code_11)
  have K7 : Keep h0 h6 [a] := K3.wr W6 (Or.inl (List.mem_of_getElem? (i := 0) rfl))
  have Fw6 : Fld Z h6 a "com/example/anteroom/anteroom/rules/Place" "line" "I" (.int x1) := f4.same W6
  have N6 := Fr.snoc X6 N2 hp1
  have f8 : Fld Z h6 a "com/example/anteroom/anteroom/rules/Place" "column" "I" (.int (0 : Int32)) := ((hp4.other W2 (Or.inr (Jvm.RoadKit.slot_ne (Or.inr (hw _ (List.mem_of_getElem? (i := 54) rfl))) (Or.inr (hw _ (List.mem_of_getElem? (i := 50) rfl))) (by decide) (t := .int) (t' := (.object "java/lang/String")) (by decide) (by decide)))).other W6 (Or.inr (Jvm.RoadKit.slot_ne (Or.inr (hw _ (List.mem_of_getElem? (i := 54) rfl))) (Or.inr (hw _ (List.mem_of_getElem? (i := 52) rfl))) (by decide) (t := .int) (t' := .int) (by decide) (by decide))))
  have f9 : Exa Z h6 a "com/example/anteroom/anteroom/rules/Place" := (f5.wr W6)
  obtain ⟨T10, h10, X10, e10, W10, st10⟩ := putF X6 hx hZ hown (host := "") (Or.inl (hw _ (List.mem_of_getElem? (i := 53) rfl))) Via.refl e6 f8 f9 (Or.inr ⟨(hw _ (List.mem_of_getElem? (i := 54) rfl)), rfl, hnm⟩) (hw _ (List.mem_of_getElem? (i := 38) rfl)) (ty := .int) (by decide) rfl rfl (g := (mkF m 16 #[.val (.ref a), .val (.ref x0), .val (.int x1), .val (.int x2)] [(.int x2), (.ref a)])) rfl rfl (hb hby own_d_prog_21_method_1_code_16)
  have K11 : Keep h0 h10 [a] := K7.wr W10 (Or.inl (List.mem_of_getElem? (i := 0) rfl))
  have Fw10 : Fld Z h10 a "com/example/anteroom/anteroom/rules/Place" "column" "I" (.int x2) := f8.same W10
  have N10 := Fr.snoc X10 N6 hp1
  obtain ⟨fs, hr, hrun, hended, hW, hsame⟩ := X10.leave (v := none) (fun _ => rfl)
  refine ⟨_, _, r0 _ ?_, hrun, hended, _, _, rfl, ?_, ⟨_, rfl⟩, hW, hsame.mono (by decide) (by decide)⟩
  · show Steps p.tables e below (s₁.setTop (mkF m 0 #[.val (.ref a), .val (.ref x0), .val (.int x1), .val (.int x2)] [])) _
    refine XS.aloadN X0.here hx rfl (hb hby own_d_prog_21_method_1_code_0) rfl rfl ?_
    show Steps p.tables e below (s₁.setTop (mkF m 1 #[.val (.ref a), .val (.ref x0), .val (.int x1), .val (.int x2)] [(.ref a)])) _
    refine st1.trans ?_
    show Steps p.tables e below (T1.setTop (mkF m 4 #[.val (.ref a), .val (.ref x0), .val (.int x1), .val (.int x2)] [])) _
    refine XS.aloadN X1.here hx rfl (hb hby own_d_prog_21_method_1_code_4) rfl rfl ?_
    show Steps p.tables e below (T1.setTop (mkF m 5 #[.val (.ref a), .val (.ref x0), .val (.int x1), .val (.int x2)] [(.ref a)])) _
    refine XS.aloadN X1.here hx rfl (hb hby own_d_prog_21_method_1_code_5) rfl rfl ?_
    show Steps p.tables e below (T1.setTop (mkF m 6 #[.val (.ref a), .val (.ref x0), .val (.int x1), .val (.int x2)] [(.ref x0), (.ref a)])) _
    refine st2 _ ?_
    show Steps p.tables e below (T2.setTop (mkF m 9 #[.val (.ref a), .val (.ref x0), .val (.int x1), .val (.int x2)] [])) _
    refine XS.aloadN X2.here hx rfl (hb hby own_d_prog_21_method_1_code_9) rfl rfl ?_
    show Steps p.tables e below (T2.setTop (mkF m 10 #[.val (.ref a), .val (.ref x0), .val (.int x1), .val (.int x2)] [(.ref a)])) _
    refine XS.iloadN X2.here hx rfl (hb hby own_d_prog_21_method_1_code_10) rfl ?_
    show Steps p.tables e below (T2.setTop (mkF m 11 #[.val (.ref a), .val (.ref x0), .val (.int x1), .val (.int x2)] [(.int x1), (.ref a)])) _
    refine st6 _ ?_
    show Steps p.tables e below (T6.setTop (mkF m 14 #[.val (.ref a), .val (.ref x0), .val (.int x1), .val (.int x2)] [])) _
    refine XS.aloadN X6.here hx rfl (hb hby own_d_prog_21_method_1_code_14) rfl rfl ?_
    show Steps p.tables e below (T6.setTop (mkF m 15 #[.val (.ref a), .val (.ref x0), .val (.int x1), .val (.int x2)] [(.ref a)])) _
    refine XS.iloadN X6.here hx rfl (hb hby own_d_prog_21_method_1_code_15) rfl ?_
    show Steps p.tables e below (T6.setTop (mkF m 16 #[.val (.ref a), .val (.ref x0), .val (.int x1), .val (.int x2)] [(.int x2), (.ref a)])) _
    refine st10 _ ?_
    show Steps p.tables e below (T10.setTop (mkF m 19 #[.val (.ref a), .val (.ref x0), .val (.int x1), .val (.int x2)] [])) _
    exact X10.returnOut hx Bd.returns (hb hby own_d_prog_21_method_1_code_19) hr
  · show Q_own_pinit Z a x0 x1 x2 h0 n0 _ T10.heap _
    rw [e10]
    have f12 : Exa Z h10 a "com/example/anteroom/anteroom/rules/Place" := (f9.wr W10)
    have f13 : Fld Z h10 a "com/example/anteroom/anteroom/rules/Place" "path" "Ljava/lang/String;" (.ref x0) := ((Fw2.other W6 (Or.inr (Jvm.RoadKit.slot_ne (Or.inr (hw _ (List.mem_of_getElem? (i := 50) rfl))) (Or.inr (hw _ (List.mem_of_getElem? (i := 52) rfl))) (by decide) (t := (.object "java/lang/String")) (t' := .int) (by decide) (by decide)))).other W10 (Or.inr (Jvm.RoadKit.slot_ne (Or.inr (hw _ (List.mem_of_getElem? (i := 50) rfl))) (Or.inr (hw _ (List.mem_of_getElem? (i := 54) rfl))) (by decide) (t := (.object "java/lang/String")) (t' := .int) (by decide) (by decide))))
    have f14 : Fld Z h10 a "com/example/anteroom/anteroom/rules/Place" "line" "I" (.int x1) := (Fw6.other W10 (Or.inr (Jvm.RoadKit.slot_ne (Or.inr (hw _ (List.mem_of_getElem? (i := 52) rfl))) (Or.inr (hw _ (List.mem_of_getElem? (i := 54) rfl))) (by decide) (t := .int) (t' := .int) (by decide) (by decide))))
    exact ⟨rfl, N10, K11, f12, f13, f14, Fw10⟩
theorem own_pn_own_finit : plainName "com/example/anteroom/anteroom/rules/Finding" = true := by first | (simp [plainName, overriddenIn]; done) | decide +kernel
theorem own_ef_own_finit (m : MethodId) (a : Addr) (x0 : Addr) (x1 : Int32) (x2 : Int32) (x3 : Addr) (x4 : Addr) : entryFrame m #[(.ref a), (.ref x0), (.int x1), (.int x2), (.ref x3), (.ref x4)] 6 = mkF m 0 #[.val (.ref a), .val (.ref x0), .val (.int x1), .val (.int x2), .val (.ref x3), .val (.ref x4)] [] := by first | (simp [entryFrame, mkF, argsToLocals, own_cI, own_cJ, own_cR, own_cN]; done) | rfl
abbrev own_F_own_finit (m : MethodId) (a : Addr) (x0 : Addr) (x1 : Int32) (x2 : Int32) (x3 : Addr) (x4 : Addr) : JFrame := entryFrame m #[(.ref a), (.ref x0), (.int x1), (.int x2), (.ref x3), (.ref x4)] 6
def Q_own_finit (Z : State) (a : Addr) (x0 : Addr) (x1 : Int32) (x2 : Int32) (x3 : Addr) (x4 : Addr) (h0 : Heap) (n0 : Nat) (v : Option Value) (h : Heap) (L : List Loc) : Prop := v = none ∧ Fr n0 L ∧ Keep h0 h [a] ∧ (Exa Z h a "com/example/anteroom/anteroom/rules/Finding") ∧ (Fld Z h a "com/example/anteroom/anteroom/rules/Finding" "path" "Ljava/lang/String;" (.ref x0)) ∧ (Fld Z h a "com/example/anteroom/anteroom/rules/Finding" "line" "I" (.int x1)) ∧ (Fld Z h a "com/example/anteroom/anteroom/rules/Finding" "column" "I" (.int x2)) ∧ (Fld Z h a "com/example/anteroom/anteroom/rules/Finding" "rule" "Lcom/example/anteroom/anteroom/rules/Rule;" (.ref x3)) ∧ (Fld Z h a "com/example/anteroom/anteroom/rules/Finding" "message" "Ljava/lang/String;" (.ref x4))
set_option maxRecDepth 65536 in
set_option maxHeartbeats 40000000 in
theorem own_finit (l : Launch) (Z : State) (a0 : Array Value) (hw : ∀ d ∈ tables_1, d.before a0 Z = true) (ws : List Jvm.Cond) (a : Addr) (x0 : Addr) (x1 : Int32) (x2 : Int32) (x3 : Addr) (x4 : Addr) (h0 : Heap) (n0 : Nat) (O0 : Old Z n0 h0) (hp0 : Exa Z h0 a "com/example/anteroom/anteroom/rules/Finding") (hp1 : n0 ≤ a) (hp2 : Fld Z h0 a "com/example/anteroom/anteroom/rules/Finding" "path" "Ljava/lang/String;" .null) (hp3 : Fld Z h0 a "com/example/anteroom/anteroom/rules/Finding" "line" "I" (.int (0 : Int32))) (hp4 : Fld Z h0 a "com/example/anteroom/anteroom/rules/Finding" "column" "I" (.int (0 : Int32))) (hp5 : Fld Z h0 a "com/example/anteroom/anteroom/rules/Finding" "rule" "Lcom/example/anteroom/anteroom/rules/Rule;" .null) (hp6 : Fld Z h0 a "com/example/anteroom/anteroom/rules/Finding" "message" "Ljava/lang/String;" .null) :
    MetFree l (⟨"com/example/anteroom/anteroom/rules/Finding", "<init>", "(Ljava/lang/String;IILcom/example/anteroom/anteroom/rules/Rule;Ljava/lang/String;)V"⟩ : MethodName) (head1 (Jvm.Cond.code (⟨"com/example/anteroom/anteroom/rules/Finding", "<init>", "(Ljava/lang/String;IILcom/example/anteroom/anteroom/rules/Rule;Ljava/lang/String;)V"⟩ : MethodName) prog_20_method_1_code 6 none :: ws) ({ frames := 2, cells := 0, slots := 0, locals := 24 } : Room)) (fun aa_ U_ => aa_ = #[(.ref a), (.ref x0), (.int x1), (.int x2), (.ref x3), (.ref x4)] ∧ Z.Warmed39 U_.vm ∧ U_.heap = h0) (fun _ _ _ _ _ => True) (fun _ U_ o_ V_ => ∃ v_ L_, o_ = .returned v_ ∧ Q_own_finit Z a x0 x1 x2 x3 x4 h0 n0 v_ V_.heap L_ ∧ FrameEnd U_ o_ V_ L_ ({ frames := 2, cells := 0, slots := 0, locals := 24 } : Room).cells ({ frames := 2, cells := 0, slots := 0, locals := 24 } : Room).slots) := by
  refine MetFree.of_bodySF (plainFor_of_name own_pn_own_finit) hisR ?_
  intro p e s m args below meth c s₁ Bd hml0 hP hK
  obtain ⟨rfl, hZ, hh⟩ := hP
  have hx := Bd.exec
  have hby := Bd.bytes
  have hml : c.maxLocals = 6 := hml0
  have hown : s.vm.findClass "com/example/anteroom/anteroom/rules/Finding" = some m.cls := findClass_of_methodNamed Bd.named
  have hnm := (name_of_methodNamed Bd.named Bd.method).1
  have X0 : Stand p l e ({ frames := 2, cells := 0, slots := 0, locals := 24 } : Room) s m #[(.ref a), (.ref x0), (.int x1), (.int x2), (.ref x3), (.ref x4)] below meth c s₁ [] 0 0 := Stand.of_body Bd
  have e0 : s₁.heap = h0 := by rw [← hh, Bd.state]; rfl
  have N0 := Fr.nil n0
  have K0 : Keep h0 h0 [a] := Keep.refl _ _
  have r0 : GoTo p.tables e below s₁ (own_F_own_finit m a x0 x1 x2 x3 x4) s₁ (mkF m 0 #[.val (.ref a), .val (.ref x0), .val (.int x1), .val (.int x2), .val (.ref x3), .val (.ref x4)] []) := fun tt_ kk_ => castTop (own_ef_own_finit m a x0 x1 x2 x3 x4) kk_
  obtain ⟨_, _, ⟨T1, L1, k1, n1⟩, -, X1, ⟨Lc1, hQ1, l1, y1, z1⟩, st1⟩ := X0.specialBack hx (y := (⟨"java/lang/Record", "<init>", "()V"⟩ : MethodName)) rfl hown (mvT hZ (hw _ (List.mem_of_getElem? (i := 66) rfl))) (mvT hZ (hw _ (List.mem_of_getElem? (i := 44) rfl))) (mvT hZ (hw _ (List.mem_of_getElem? (i := 47) rfl))) (by decide) (backOf (W := 0) (own_rec l Z a0 hw [] (a) h0 n0 (O0.keep K0 (allS hp1 all0))) hZ (hw _ (List.mem_of_getElem? (i := 47) rfl)) (hw _ (List.mem_of_getElem? (i := 46) rfl)) (by decide) (by decide)) (g := (mkF m 1 #[.val (.ref a), .val (.ref x0), .val (.int x1), .val (.int x2), .val (.ref x3), .val (.ref x4)] [(.ref a)])) rfl (by rw [hml]; rfl) (Steps.refl _) (a := a) (argsL := []) (rest := []) (lenOf own_pd0 rfl) rfl (by show 2 * 0 + _ ≤ _; exact Nat.le_of_eq rfl) (hb hby own_d_prog_20_method_1_code_1) (fun _ _ => ⟨rfl, e0, (by decide : 0 + 0 ≤ _), (by decide : 0 + 0 ≤ _)⟩)
  dsimp only [Pt.U, Pt.locs, Pt.cells, Pt.slots] at X1 l1 y1 z1 st1 hQ1
  subst l1 y1 z1
  obtain ⟨rfl, Nq1, hh1⟩ := hQ1
  have N1 := Fr.app N0 Nq1
  obtain ⟨T2, h2, X2, e2, W2, st2⟩ := putF X1 hx hZ hown (host := "") (Or.inl (hw _ (List.mem_of_getElem? (i := 67) rfl))) Via.refl hh1 hp2 hp0 (Or.inr ⟨(hw _ (List.mem_of_getElem? (i := 68) rfl)), rfl, hnm⟩) (hw _ (List.mem_of_getElem? (i := 61) rfl)) (ty := (.object "java/lang/String")) (by decide) rfl rfl (g := (mkF m 6 #[.val (.ref a), .val (.ref x0), .val (.int x1), .val (.int x2), .val (.ref x3), .val (.ref x4)] [(.ref x0), (.ref a)])) rfl rfl (hb hby own_d_prog_20_method_1_code_6)
  have K3 : Keep h0 h2 [a] := K0.wr W2 (Or.inl (List.mem_of_getElem? (i := 0) rfl))
  have Fw2 : Fld Z h2 a "com/example/anteroom/anteroom/rules/Finding" "path" "Ljava/lang/String;" (.ref x0) := hp2.same W2
  have N2 := Fr.snoc X2 N1 hp1
  have f4 : Fld Z h2 a "com/example/anteroom/anteroom/rules/Finding" "line" "I" (.int (0 : Int32)) := (hp3.other W2 (Or.inr (Jvm.RoadKit.slot_ne (Or.inr (hw _ (List.mem_of_getElem? (i := 70) rfl))) (Or.inr (hw _ (List.mem_of_getElem? (i := 68) rfl))) (by decide) (t := .int) (t' := (.object "java/lang/String")) (by decide) (by decide))))
  have f5 : Exa Z h2 a "com/example/anteroom/anteroom/rules/Finding" := (hp0.wr W2)
  obtain ⟨T6, h6, X6, e6, W6, st6⟩ := putF X2 hx hZ hown (host := "") (Or.inl (hw _ (List.mem_of_getElem? (i := 69) rfl))) Via.refl e2 f4 f5 (Or.inr ⟨(hw _ (List.mem_of_getElem? (i := 70) rfl)), rfl, hnm⟩) (hw _ (List.mem_of_getElem? (i := 61) rfl)) (ty := .int) (by decide) rfl rfl (g := (mkF m 11 #[.val (.ref a), .val (.ref x0), .val (.int x1), .val (.int x2), .val (.ref x3), .val (.ref x4)] [(.int x1), (.ref a)])) rfl rfl (hb hby own_d_prog_20_method_1_code_11)
  have K7 : Keep h0 h6 [a] := K3.wr W6 (Or.inl (List.mem_of_getElem? (i := 0) rfl))
  have Fw6 : Fld Z h6 a "com/example/anteroom/anteroom/rules/Finding" "line" "I" (.int x1) := f4.same W6
  have N6 := Fr.snoc X6 N2 hp1
  have f8 : Fld Z h6 a "com/example/anteroom/anteroom/rules/Finding" "column" "I" (.int (0 : Int32)) := ((hp4.other W2 (Or.inr (Jvm.RoadKit.slot_ne (Or.inr (hw _ (List.mem_of_getElem? (i := 72) rfl))) (Or.inr (hw _ (List.mem_of_getElem? (i := 68) rfl))) (by decide) (t := .int) (t' := (.object "java/lang/String")) (by decide) (by decide)))).other W6 (Or.inr (Jvm.RoadKit.slot_ne (Or.inr (hw _ (List.mem_of_getElem? (i := 72) rfl))) (Or.inr (hw _ (List.mem_of_getElem? (i := 70) rfl))) (by decide) (t := .int) (t' := .int) (by decide) (by decide))))
  have f9 : Exa Z h6 a "com/example/anteroom/anteroom/rules/Finding" := (f5.wr W6)
  obtain ⟨T10, h10, X10, e10, W10, st10⟩ := putF X6 hx hZ hown (host := "") (Or.inl (hw _ (List.mem_of_getElem? (i := 71) rfl))) Via.refl e6 f8 f9 (Or.inr ⟨(hw _ (List.mem_of_getElem? (i := 72) rfl)), rfl, hnm⟩) (hw _ (List.mem_of_getElem? (i := 61) rfl)) (ty := .int) (by decide) rfl rfl (g := (mkF m 16 #[.val (.ref a), .val (.ref x0), .val (.int x1), .val (.int x2), .val (.ref x3), .val (.ref x4)] [(.int x2), (.ref a)])) rfl rfl (hb hby own_d_prog_20_method_1_code_16)
  have K11 : Keep h0 h10 [a] := K7.wr W10 (Or.inl (List.mem_of_getElem? (i := 0) rfl))
  have Fw10 : Fld Z h10 a "com/example/anteroom/anteroom/rules/Finding" "column" "I" (.int x2) := f8.same W10
  have N10 := Fr.snoc X10 N6 hp1
  have f12 : Fld Z h10 a "com/example/anteroom/anteroom/rules/Finding" "rule" "Lcom/example/anteroom/anteroom/rules/Rule;" .null := (((hp5.other W2 (Or.inr (Jvm.RoadKit.slot_ne (Or.inr (hw _ (List.mem_of_getElem? (i := 74) rfl))) (Or.inr (hw _ (List.mem_of_getElem? (i := 68) rfl))) (by decide) (t := (.object "com/example/anteroom/anteroom/rules/Rule")) (t' := (.object "java/lang/String")) (by decide) (by decide)))).other W6 (Or.inr (Jvm.RoadKit.slot_ne (Or.inr (hw _ (List.mem_of_getElem? (i := 74) rfl))) (Or.inr (hw _ (List.mem_of_getElem? (i := 70) rfl))) (by decide) (t := (.object "com/example/anteroom/anteroom/rules/Rule")) (t' := .int) (by decide) (by decide)))).other W10 (Or.inr (Jvm.RoadKit.slot_ne (Or.inr (hw _ (List.mem_of_getElem? (i := 74) rfl))) (Or.inr (hw _ (List.mem_of_getElem? (i := 72) rfl))) (by decide) (t := (.object "com/example/anteroom/anteroom/rules/Rule")) (t' := .int) (by decide) (by decide))))
  have f13 : Exa Z h10 a "com/example/anteroom/anteroom/rules/Finding" := (f9.wr W10)
  obtain ⟨T14, h14, X14, e14, W14, st14⟩ := putF X10 hx hZ hown (host := "") (Or.inl (hw _ (List.mem_of_getElem? (i := 73) rfl))) Via.refl e10 f12 f13 (Or.inr ⟨(hw _ (List.mem_of_getElem? (i := 74) rfl)), rfl, hnm⟩) (hw _ (List.mem_of_getElem? (i := 61) rfl)) (ty := (.object "com/example/anteroom/anteroom/rules/Rule")) (by decide) rfl rfl (g := (mkF m 22 #[.val (.ref a), .val (.ref x0), .val (.int x1), .val (.int x2), .val (.ref x3), .val (.ref x4)] [(.ref x3), (.ref a)])) rfl rfl (hb hby own_d_prog_20_method_1_code_22)
  have K15 : Keep h0 h14 [a] := K11.wr W14 (Or.inl (List.mem_of_getElem? (i := 0) rfl))
  have Fw14 : Fld Z h14 a "com/example/anteroom/anteroom/rules/Finding" "rule" "Lcom/example/anteroom/anteroom/rules/Rule;" (.ref x3) := f12.same W14
  have N14 := Fr.snoc X14 N10 hp1
  have f16 : Fld Z h14 a "com/example/anteroom/anteroom/rules/Finding" "message" "Ljava/lang/String;" .null := ((((hp6.other W2 (Or.inr (Jvm.RoadKit.slot_ne (Or.inr (hw _ (List.mem_of_getElem? (i := 76) rfl))) (Or.inr (hw _ (List.mem_of_getElem? (i := 68) rfl))) (by decide) (t := (.object "java/lang/String")) (t' := (.object "java/lang/String")) (by decide) (by decide)))).other W6 (Or.inr (Jvm.RoadKit.slot_ne (Or.inr (hw _ (List.mem_of_getElem? (i := 76) rfl))) (Or.inr (hw _ (List.mem_of_getElem? (i := 70) rfl))) (by decide) (t := (.object "java/lang/String")) (t' := .int) (by decide) (by decide)))).other W10 (Or.inr (Jvm.RoadKit.slot_ne (Or.inr (hw _ (List.mem_of_getElem? (i := 76) rfl))) (Or.inr (hw _ (List.mem_of_getElem? (i := 72) rfl))) (by decide) (t := (.object "java/lang/String")) (t' := .int) (by decide) (by decide)))).other W14 (Or.inr (Jvm.RoadKit.slot_ne (Or.inr (hw _ (List.mem_of_getElem? (i := 76) rfl))) (Or.inr (hw _ (List.mem_of_getElem? (i := 74) rfl))) (by decide) (t := (.object "java/lang/String")) (t' := (.object "com/example/anteroom/anteroom/rules/Rule")) (by decide) (by decide))))
  have f17 : Exa Z h14 a "com/example/anteroom/anteroom/rules/Finding" := (f13.wr W14)
  obtain ⟨T18, h18, X18, e18, W18, st18⟩ := putF X14 hx hZ hown (host := "") (Or.inl (hw _ (List.mem_of_getElem? (i := 75) rfl))) Via.refl e14 f16 f17 (Or.inr ⟨(hw _ (List.mem_of_getElem? (i := 76) rfl)), rfl, hnm⟩) (hw _ (List.mem_of_getElem? (i := 61) rfl)) (ty := (.object "java/lang/String")) (by decide) rfl rfl (g := (mkF m 28 #[.val (.ref a), .val (.ref x0), .val (.int x1), .val (.int x2), .val (.ref x3), .val (.ref x4)] [(.ref x4), (.ref a)])) rfl rfl (hb hby own_d_prog_20_method_1_code_28)
  have K19 : Keep h0 h18 [a] := K15.wr W18 (Or.inl (List.mem_of_getElem? (i := 0) rfl))
  have Fw18 : Fld Z h18 a "com/example/anteroom/anteroom/rules/Finding" "message" "Ljava/lang/String;" (.ref x4) := f16.same W18
  have N18 := Fr.snoc X18 N14 hp1
  obtain ⟨fs, hr, hrun, hended, hW, hsame⟩ := X18.leave (v := none) (fun _ => rfl)
  refine ⟨_, _, r0 _ ?_, hrun, hended, _, _, rfl, ?_, ⟨_, rfl⟩, hW, hsame.mono (by decide) (by decide)⟩
  · show Steps p.tables e below (s₁.setTop (mkF m 0 #[.val (.ref a), .val (.ref x0), .val (.int x1), .val (.int x2), .val (.ref x3), .val (.ref x4)] [])) _
    refine XS.aloadN X0.here hx rfl (hb hby own_d_prog_20_method_1_code_0) rfl rfl ?_
    show Steps p.tables e below (s₁.setTop (mkF m 1 #[.val (.ref a), .val (.ref x0), .val (.int x1), .val (.int x2), .val (.ref x3), .val (.ref x4)] [(.ref a)])) _
    refine st1.trans ?_
    show Steps p.tables e below (T1.setTop (mkF m 4 #[.val (.ref a), .val (.ref x0), .val (.int x1), .val (.int x2), .val (.ref x3), .val (.ref x4)] [])) _
    refine XS.aloadN X1.here hx rfl (hb hby own_d_prog_20_method_1_code_4) rfl rfl ?_
    show Steps p.tables e below (T1.setTop (mkF m 5 #[.val (.ref a), .val (.ref x0), .val (.int x1), .val (.int x2), .val (.ref x3), .val (.ref x4)] [(.ref a)])) _
    refine XS.aloadN X1.here hx rfl (hb hby own_d_prog_20_method_1_code_5) rfl rfl ?_
    show Steps p.tables e below (T1.setTop (mkF m 6 #[.val (.ref a), .val (.ref x0), .val (.int x1), .val (.int x2), .val (.ref x3), .val (.ref x4)] [(.ref x0), (.ref a)])) _
    refine st2 _ ?_
    show Steps p.tables e below (T2.setTop (mkF m 9 #[.val (.ref a), .val (.ref x0), .val (.int x1), .val (.int x2), .val (.ref x3), .val (.ref x4)] [])) _
    refine XS.aloadN X2.here hx rfl (hb hby own_d_prog_20_method_1_code_9) rfl rfl ?_
    show Steps p.tables e below (T2.setTop (mkF m 10 #[.val (.ref a), .val (.ref x0), .val (.int x1), .val (.int x2), .val (.ref x3), .val (.ref x4)] [(.ref a)])) _
    refine XS.iloadN X2.here hx rfl (hb hby own_d_prog_20_method_1_code_10) rfl ?_
    show Steps p.tables e below (T2.setTop (mkF m 11 #[.val (.ref a), .val (.ref x0), .val (.int x1), .val (.int x2), .val (.ref x3), .val (.ref x4)] [(.int x1), (.ref a)])) _
    refine st6 _ ?_
    show Steps p.tables e below (T6.setTop (mkF m 14 #[.val (.ref a), .val (.ref x0), .val (.int x1), .val (.int x2), .val (.ref x3), .val (.ref x4)] [])) _
    refine XS.aloadN X6.here hx rfl (hb hby own_d_prog_20_method_1_code_14) rfl rfl ?_
    show Steps p.tables e below (T6.setTop (mkF m 15 #[.val (.ref a), .val (.ref x0), .val (.int x1), .val (.int x2), .val (.ref x3), .val (.ref x4)] [(.ref a)])) _
    refine XS.iloadN X6.here hx rfl (hb hby own_d_prog_20_method_1_code_15) rfl ?_
    show Steps p.tables e below (T6.setTop (mkF m 16 #[.val (.ref a), .val (.ref x0), .val (.int x1), .val (.int x2), .val (.ref x3), .val (.ref x4)] [(.int x2), (.ref a)])) _
    refine st10 _ ?_
    show Steps p.tables e below (T10.setTop (mkF m 19 #[.val (.ref a), .val (.ref x0), .val (.int x1), .val (.int x2), .val (.ref x3), .val (.ref x4)] [])) _
    refine XS.aloadN X10.here hx rfl (hb hby own_d_prog_20_method_1_code_19) rfl rfl ?_
    show Steps p.tables e below (T10.setTop (mkF m 20 #[.val (.ref a), .val (.ref x0), .val (.int x1), .val (.int x2), .val (.ref x3), .val (.ref x4)] [(.ref a)])) _
    refine XS.aload X10.here hx rfl (hb hby own_d_prog_20_method_1_code_20) rfl rfl ?_
    show Steps p.tables e below (T10.setTop (mkF m 22 #[.val (.ref a), .val (.ref x0), .val (.int x1), .val (.int x2), .val (.ref x3), .val (.ref x4)] [(.ref x3), (.ref a)])) _
    refine st14 _ ?_
    show Steps p.tables e below (T14.setTop (mkF m 25 #[.val (.ref a), .val (.ref x0), .val (.int x1), .val (.int x2), .val (.ref x3), .val (.ref x4)] [])) _
    refine XS.aloadN X14.here hx rfl (hb hby own_d_prog_20_method_1_code_25) rfl rfl ?_
    show Steps p.tables e below (T14.setTop (mkF m 26 #[.val (.ref a), .val (.ref x0), .val (.int x1), .val (.int x2), .val (.ref x3), .val (.ref x4)] [(.ref a)])) _
    refine XS.aload X14.here hx rfl (hb hby own_d_prog_20_method_1_code_26) rfl rfl ?_
    show Steps p.tables e below (T14.setTop (mkF m 28 #[.val (.ref a), .val (.ref x0), .val (.int x1), .val (.int x2), .val (.ref x3), .val (.ref x4)] [(.ref x4), (.ref a)])) _
    refine st18 _ ?_
    show Steps p.tables e below (T18.setTop (mkF m 31 #[.val (.ref a), .val (.ref x0), .val (.int x1), .val (.int x2), .val (.ref x3), .val (.ref x4)] [])) _
    exact X18.returnOut hx Bd.returns (hb hby own_d_prog_20_method_1_code_31) hr
  · show Q_own_finit Z a x0 x1 x2 x3 x4 h0 n0 _ T18.heap _
    rw [e18]
    have f20 : Exa Z h18 a "com/example/anteroom/anteroom/rules/Finding" := (f17.wr W18)
    have f21 : Fld Z h18 a "com/example/anteroom/anteroom/rules/Finding" "path" "Ljava/lang/String;" (.ref x0) := ((((Fw2.other W6 (Or.inr (Jvm.RoadKit.slot_ne (Or.inr (hw _ (List.mem_of_getElem? (i := 68) rfl))) (Or.inr (hw _ (List.mem_of_getElem? (i := 70) rfl))) (by decide) (t := (.object "java/lang/String")) (t' := .int) (by decide) (by decide)))).other W10 (Or.inr (Jvm.RoadKit.slot_ne (Or.inr (hw _ (List.mem_of_getElem? (i := 68) rfl))) (Or.inr (hw _ (List.mem_of_getElem? (i := 72) rfl))) (by decide) (t := (.object "java/lang/String")) (t' := .int) (by decide) (by decide)))).other W14 (Or.inr (Jvm.RoadKit.slot_ne (Or.inr (hw _ (List.mem_of_getElem? (i := 68) rfl))) (Or.inr (hw _ (List.mem_of_getElem? (i := 74) rfl))) (by decide) (t := (.object "java/lang/String")) (t' := (.object "com/example/anteroom/anteroom/rules/Rule")) (by decide) (by decide)))).other W18 (Or.inr (Jvm.RoadKit.slot_ne (Or.inr (hw _ (List.mem_of_getElem? (i := 68) rfl))) (Or.inr (hw _ (List.mem_of_getElem? (i := 76) rfl))) (by decide) (t := (.object "java/lang/String")) (t' := (.object "java/lang/String")) (by decide) (by decide))))
    have f22 : Fld Z h18 a "com/example/anteroom/anteroom/rules/Finding" "line" "I" (.int x1) := (((Fw6.other W10 (Or.inr (Jvm.RoadKit.slot_ne (Or.inr (hw _ (List.mem_of_getElem? (i := 70) rfl))) (Or.inr (hw _ (List.mem_of_getElem? (i := 72) rfl))) (by decide) (t := .int) (t' := .int) (by decide) (by decide)))).other W14 (Or.inr (Jvm.RoadKit.slot_ne (Or.inr (hw _ (List.mem_of_getElem? (i := 70) rfl))) (Or.inr (hw _ (List.mem_of_getElem? (i := 74) rfl))) (by decide) (t := .int) (t' := (.object "com/example/anteroom/anteroom/rules/Rule")) (by decide) (by decide)))).other W18 (Or.inr (Jvm.RoadKit.slot_ne (Or.inr (hw _ (List.mem_of_getElem? (i := 70) rfl))) (Or.inr (hw _ (List.mem_of_getElem? (i := 76) rfl))) (by decide) (t := .int) (t' := (.object "java/lang/String")) (by decide) (by decide))))
    have f23 : Fld Z h18 a "com/example/anteroom/anteroom/rules/Finding" "column" "I" (.int x2) := ((Fw10.other W14 (Or.inr (Jvm.RoadKit.slot_ne (Or.inr (hw _ (List.mem_of_getElem? (i := 72) rfl))) (Or.inr (hw _ (List.mem_of_getElem? (i := 74) rfl))) (by decide) (t := .int) (t' := (.object "com/example/anteroom/anteroom/rules/Rule")) (by decide) (by decide)))).other W18 (Or.inr (Jvm.RoadKit.slot_ne (Or.inr (hw _ (List.mem_of_getElem? (i := 72) rfl))) (Or.inr (hw _ (List.mem_of_getElem? (i := 76) rfl))) (by decide) (t := .int) (t' := (.object "java/lang/String")) (by decide) (by decide))))
    have f24 : Fld Z h18 a "com/example/anteroom/anteroom/rules/Finding" "rule" "Lcom/example/anteroom/anteroom/rules/Rule;" (.ref x3) := (Fw14.other W18 (Or.inr (Jvm.RoadKit.slot_ne (Or.inr (hw _ (List.mem_of_getElem? (i := 74) rfl))) (Or.inr (hw _ (List.mem_of_getElem? (i := 76) rfl))) (by decide) (t := (.object "com/example/anteroom/anteroom/rules/Rule")) (t' := (.object "java/lang/String")) (by decide) (by decide))))
    exact ⟨rfl, N18, K19, f20, f21, f22, f23, f24, Fw18⟩
theorem own_pn_own_finding : plainName "com/example/anteroom/anteroom/rules/Place" = true := by first | (simp [plainName, overriddenIn]; done) | decide +kernel
theorem own_ef_own_finding (m : MethodId) (a : Addr) (ru : Addr) (ms : Addr) : entryFrame m #[(.ref a), (.ref ru), (.ref ms)] 3 = mkF m 0 #[.val (.ref a), .val (.ref ru), .val (.ref ms)] [] := by first | (simp [entryFrame, mkF, argsToLocals, own_cI, own_cJ, own_cR, own_cN]; done) | rfl
abbrev own_F_own_finding (m : MethodId) (a : Addr) (ru : Addr) (ms : Addr) : JFrame := entryFrame m #[(.ref a), (.ref ru), (.ref ms)] 3
def Q_own_finding (Z : State) (a : Addr) (ru : Addr) (ms : Addr) (pa : Addr) (i1 : Int32) (i2 : Int32) (h0 : Heap) (n0 : Nat) (v : Option Value) (h : Heap) (L : List Loc) : Prop := ∃ (b : Addr), v = some (.ref b) ∧ Fr n0 L ∧ Keep h0 h [] ∧ (h0.size ≤ b) ∧ (n0 ≤ b) ∧ (Exa Z h b "com/example/anteroom/anteroom/rules/Finding") ∧ (Fld Z h b "com/example/anteroom/anteroom/rules/Finding" "path" "Ljava/lang/String;" (.ref pa)) ∧ (Fld Z h b "com/example/anteroom/anteroom/rules/Finding" "line" "I" (.int i1)) ∧ (Fld Z h b "com/example/anteroom/anteroom/rules/Finding" "column" "I" (.int i2)) ∧ (Fld Z h b "com/example/anteroom/anteroom/rules/Finding" "rule" "Lcom/example/anteroom/anteroom/rules/Rule;" (.ref ru)) ∧ (Fld Z h b "com/example/anteroom/anteroom/rules/Finding" "message" "Ljava/lang/String;" (.ref ms))
set_option maxRecDepth 65536 in
set_option maxHeartbeats 40000000 in
theorem own_finding (l : Launch) (Z : State) (a0 : Array Value) (hw : ∀ d ∈ tables_1, d.before a0 Z = true) (ws : List Jvm.Cond) (a : Addr) (ru : Addr) (ms : Addr) (pa : Addr) (i1 : Int32) (i2 : Int32) (h0 : Heap) (n0 : Nat) (O0 : Old Z n0 h0) (hp0 : Fld Z h0 a "com/example/anteroom/anteroom/rules/Place" "path" "Ljava/lang/String;" (.ref pa)) (hp1 : Fld Z h0 a "com/example/anteroom/anteroom/rules/Place" "line" "I" (.int i1)) (hp2 : Fld Z h0 a "com/example/anteroom/anteroom/rules/Place" "column" "I" (.int i2)) :
    MetFree l (⟨"com/example/anteroom/anteroom/rules/Place", "finding", "(Lcom/example/anteroom/anteroom/rules/Rule;Ljava/lang/String;)Lcom/example/anteroom/anteroom/rules/Finding;"⟩ : MethodName) (head1 (Jvm.Cond.code (⟨"com/example/anteroom/anteroom/rules/Place", "finding", "(Lcom/example/anteroom/anteroom/rules/Rule;Ljava/lang/String;)Lcom/example/anteroom/anteroom/rules/Finding;"⟩ : MethodName) prog_21_method_2_code 3 (some (.object "com/example/anteroom/anteroom/rules/Finding")) :: ws) ({ frames := 3, cells := 1, slots := 5, locals := 42 } : Room)) (fun aa_ U_ => aa_ = #[(.ref a), (.ref ru), (.ref ms)] ∧ Z.Warmed39 U_.vm ∧ U_.heap = h0) (fun _ _ _ _ _ => True) (fun _ U_ o_ V_ => ∃ v_ L_, o_ = .returned v_ ∧ Q_own_finding Z a ru ms pa i1 i2 h0 n0 v_ V_.heap L_ ∧ FrameEnd U_ o_ V_ L_ ({ frames := 3, cells := 1, slots := 5, locals := 42 } : Room).cells ({ frames := 3, cells := 1, slots := 5, locals := 42 } : Room).slots) := by
  refine MetFree.of_bodySF (plainFor_of_name own_pn_own_finding) hisR ?_
  intro p e s m args below meth c s₁ Bd hml0 hP hK
  obtain ⟨rfl, hZ, hh⟩ := hP
  have hx := Bd.exec
  have hby := Bd.bytes
  have hml : c.maxLocals = 3 := hml0
  have hown : s.vm.findClass "com/example/anteroom/anteroom/rules/Place" = some m.cls := findClass_of_methodNamed Bd.named
  have hnm := (name_of_methodNamed Bd.named Bd.method).1
  have X0 : Stand p l e ({ frames := 3, cells := 1, slots := 5, locals := 42 } : Room) s m #[(.ref a), (.ref ru), (.ref ms)] below meth c s₁ [] 0 0 := Stand.of_body Bd
  have e0 : s₁.heap = h0 := by rw [← hh, Bd.state]; rfl
  have N0 := Fr.nil n0
  have K0 : Keep h0 h0 [] := Keep.refl _ _
  have r0 : GoTo p.tables e below s₁ (own_F_own_finding m a ru ms) s₁ (mkF m 0 #[.val (.ref a), .val (.ref ru), .val (.ref ms)] []) := fun tt_ kk_ => castTop (own_ef_own_finding m a ru ms) kk_
  obtain ⟨T1, h1, X1, e1, E1, A1, D1, -, st1⟩ := newO X0 hx hZ hown (hw _ (List.mem_of_getElem? (i := 60) rfl)) (hw _ (List.mem_of_getElem? (i := 61) rfl)) (hw _ (List.mem_of_getElem? (i := 62) rfl)) e0 (g := (mkF m 0 #[.val (.ref a), .val (.ref ru), .val (.ref ms)] [])) rfl (hb hby own_d_prog_21_method_2_code_0) (by decide) (by decide)
  obtain ⟨b1, gg1⟩ : ∃ z, z = h0.size := ⟨_, rfl⟩
  rw [← gg1] at A1 D1 st1
  have ne2 : a ≠ b1 := Nat.ne_of_lt (Nat.lt_of_lt_of_le hp0.lt (Nat.le_of_eq gg1.symm))
  have g3 : n0 ≤ b1 := Nat.le_trans (Nat.le_trans (own_le O0) K0.1) (Nat.le_of_eq gg1.symm)
  have b4 : h0.size ≤ b1 := Nat.le_trans K0.1 (Nat.le_of_eq gg1.symm)
  have K5 : Keep h0 h1 [] := K0.ext E1
  have f6 : Fld Z h1 a "com/example/anteroom/anteroom/rules/Place" "path" "Ljava/lang/String;" (.ref pa) := (hp0.ext E1)
  obtain ⟨T7, X7, e7, st7⟩ := getF X1 hx hZ hown (host := "") (Or.inl (hw _ (List.mem_of_getElem? (i := 49) rfl))) Via.refl e1 f6 (g := (mkF m 5 #[.val (.ref a), .val (.ref ru), .val (.ref ms)] [(.ref a), (.ref b1), (.ref b1)])) rfl rfl (hb hby own_d_prog_21_method_2_code_5)
  have f8 : Fld Z h1 a "com/example/anteroom/anteroom/rules/Place" "line" "I" (.int i1) := (hp1.ext E1)
  obtain ⟨T9, X9, e9, st9⟩ := getF X7 hx hZ hown (host := "") (Or.inl (hw _ (List.mem_of_getElem? (i := 51) rfl))) Via.refl e7 f8 (g := (mkF m 9 #[.val (.ref a), .val (.ref ru), .val (.ref ms)] [(.ref a), (.ref pa), (.ref b1), (.ref b1)])) rfl rfl (hb hby own_d_prog_21_method_2_code_9)
  have f10 : Fld Z h1 a "com/example/anteroom/anteroom/rules/Place" "column" "I" (.int i2) := (hp2.ext E1)
  obtain ⟨T11, X11, e11, st11⟩ := getF X9 hx hZ hown (host := "") (Or.inl (hw _ (List.mem_of_getElem? (i := 53) rfl))) Via.refl e9 f10 (g := (mkF m 13 #[.val (.ref a), .val (.ref ru), .val (.ref ms)] [(.ref a), (.int i1), (.ref pa), (.ref b1), (.ref b1)])) rfl rfl (hb hby own_d_prog_21_method_2_code_13)
  obtain ⟨_, _, ⟨T12, L12, k12, n12⟩, -, X12, ⟨Lc12, hQ12, l12, y12, z12⟩, st12⟩ := X11.specialBack hx (y := (⟨"com/example/anteroom/anteroom/rules/Finding", "<init>", "(Ljava/lang/String;IILcom/example/anteroom/anteroom/rules/Rule;Ljava/lang/String;)V"⟩ : MethodName)) rfl hown (mvT hZ (hw _ (List.mem_of_getElem? (i := 63) rfl))) (mvT hZ (hw _ (List.mem_of_getElem? (i := 64) rfl))) (mvT hZ (hw _ (List.mem_of_getElem? (i := 65) rfl))) (by decide) (backOf (W := 1) (own_finit l Z a0 hw [] (b1) (pa) (i1) (i2) (ru) (ms) h1 n0 (O0.keep K5 all0) (A1) (g3) ((D1 (Or.inr (hw _ (List.mem_of_getElem? (i := 68) rfl))) (ty := (.object "java/lang/String")) (by decide))) ((D1 (Or.inr (hw _ (List.mem_of_getElem? (i := 70) rfl))) (ty := .int) (by decide))) ((D1 (Or.inr (hw _ (List.mem_of_getElem? (i := 72) rfl))) (ty := .int) (by decide))) ((D1 (Or.inr (hw _ (List.mem_of_getElem? (i := 74) rfl))) (ty := (.object "com/example/anteroom/anteroom/rules/Rule")) (by decide))) ((D1 (Or.inr (hw _ (List.mem_of_getElem? (i := 76) rfl))) (ty := (.object "java/lang/String")) (by decide)))) hZ (hw _ (List.mem_of_getElem? (i := 65) rfl)) (hw _ (List.mem_of_getElem? (i := 62) rfl)) (by decide) (by decide)) (g := (mkF m 18 #[.val (.ref a), .val (.ref ru), .val (.ref ms)] [(.ref ms), (.ref ru), (.int i2), (.int i1), (.ref pa), (.ref b1), (.ref b1)])) rfl (by rw [hml]; rfl) (Steps.refl _) (a := b1) (argsL := [(.ref pa), (.int i1), (.int i2), (.ref ru), (.ref ms)]) (rest := [(.ref b1)]) (lenOf own_pd1 rfl) rfl (by show 2 * 0 + _ ≤ _; exact Nat.le_of_eq rfl) (hb hby own_d_prog_21_method_2_code_18) (fun _ _ => ⟨rfl, e11, (by decide : 1 + 0 ≤ _), (by decide : 5 + 0 ≤ _)⟩)
  dsimp only [Pt.U, Pt.locs, Pt.cells, Pt.slots] at X12 l12 y12 z12 st12 hQ12
  subst l12 y12 z12
  obtain ⟨rfl, Nq12, Kq12, po12_0, po12_1, po12_2, po12_3, po12_4, po12_5⟩ := hQ12
  have N12 := Fr.app N0 Nq12
  have K13 : Keep h0 T12.heap [] := K5.trans Kq12 (allS (Or.inr b4) all0)
  obtain ⟨fs, hr, hrun, hended, hW, hsame⟩ := X12.leave (v := some (.ref b1)) (fun h => by rw [Bd.returns] at h; cases h)
  refine ⟨_, _, r0 _ ?_, hrun, hended, _, _, rfl, ?_, ⟨_, rfl⟩, hW, hsame.mono (by decide) (by decide)⟩
  · show Steps p.tables e below (s₁.setTop (mkF m 0 #[.val (.ref a), .val (.ref ru), .val (.ref ms)] [])) _
    refine st1 _ ?_
    show Steps p.tables e below (T1.setTop (mkF m 3 #[.val (.ref a), .val (.ref ru), .val (.ref ms)] [(.ref b1)])) _
    refine XS.dup X1.here hx rfl (hb hby own_d_prog_21_method_2_code_3) rfl rfl ?_
    show Steps p.tables e below (T1.setTop (mkF m 4 #[.val (.ref a), .val (.ref ru), .val (.ref ms)] [(.ref b1), (.ref b1)])) _
    refine XS.aloadN X1.here hx rfl (hb hby own_d_prog_21_method_2_code_4) rfl rfl ?_
    show Steps p.tables e below (T1.setTop (mkF m 5 #[.val (.ref a), .val (.ref ru), .val (.ref ms)] [(.ref a), (.ref b1), (.ref b1)])) _
    refine st7 _ ?_
    show Steps p.tables e below (T7.setTop (mkF m 8 #[.val (.ref a), .val (.ref ru), .val (.ref ms)] [(.ref pa), (.ref b1), (.ref b1)])) _
    refine XS.aloadN X7.here hx rfl (hb hby own_d_prog_21_method_2_code_8) rfl rfl ?_
    show Steps p.tables e below (T7.setTop (mkF m 9 #[.val (.ref a), .val (.ref ru), .val (.ref ms)] [(.ref a), (.ref pa), (.ref b1), (.ref b1)])) _
    refine st9 _ ?_
    show Steps p.tables e below (T9.setTop (mkF m 12 #[.val (.ref a), .val (.ref ru), .val (.ref ms)] [(.int i1), (.ref pa), (.ref b1), (.ref b1)])) _
    refine XS.aloadN X9.here hx rfl (hb hby own_d_prog_21_method_2_code_12) rfl rfl ?_
    show Steps p.tables e below (T9.setTop (mkF m 13 #[.val (.ref a), .val (.ref ru), .val (.ref ms)] [(.ref a), (.int i1), (.ref pa), (.ref b1), (.ref b1)])) _
    refine st11 _ ?_
    show Steps p.tables e below (T11.setTop (mkF m 16 #[.val (.ref a), .val (.ref ru), .val (.ref ms)] [(.int i2), (.int i1), (.ref pa), (.ref b1), (.ref b1)])) _
    refine XS.aloadN X11.here hx rfl (hb hby own_d_prog_21_method_2_code_16) rfl rfl ?_
    show Steps p.tables e below (T11.setTop (mkF m 17 #[.val (.ref a), .val (.ref ru), .val (.ref ms)] [(.ref ru), (.int i2), (.int i1), (.ref pa), (.ref b1), (.ref b1)])) _
    refine XS.aloadN X11.here hx rfl (hb hby own_d_prog_21_method_2_code_17) rfl rfl ?_
    show Steps p.tables e below (T11.setTop (mkF m 18 #[.val (.ref a), .val (.ref ru), .val (.ref ms)] [(.ref ms), (.ref ru), (.int i2), (.int i1), (.ref pa), (.ref b1), (.ref b1)])) _
    refine st12.trans ?_
    show Steps p.tables e below (T12.setTop (mkF m 21 #[.val (.ref a), .val (.ref ru), .val (.ref ms)] [(.ref b1)])) _
    exact retOut X12 hx (t := (.object "com/example/anteroom/anteroom/rules/Finding")) Bd.returns rfl (Or.inr (Or.inr (Or.inr (Or.inr ⟨rfl, rfl, rfl⟩)))) (hb hby own_d_prog_21_method_2_code_21) hr
  · show Q_own_finding Z a ru ms pa i1 i2 h0 n0 _ T12.heap _
    exact ⟨b1, rfl, N12, K13, b4, g3, po12_0, po12_1, po12_2, po12_3, po12_4, po12_5⟩
theorem own_pn_own_gpath : plainName "com/example/anteroom/anteroom/rules/Finding" = true := by first | (simp [plainName, overriddenIn]; done) | decide +kernel
theorem own_ef_own_gpath (m : MethodId) (a : Addr) : entryFrame m #[(.ref a)] 1 = mkF m 0 #[.val (.ref a)] [] := by first | (simp [entryFrame, mkF, argsToLocals, own_cI, own_cJ, own_cR, own_cN]; done) | rfl
abbrev own_F_own_gpath (m : MethodId) (a : Addr) : JFrame := entryFrame m #[(.ref a)] 1
def Q_own_gpath (Z : State) (a : Addr) (z : Addr) (h0 : Heap) (n0 : Nat) (v : Option Value) (h : Heap) (L : List Loc) : Prop := v = some (.ref z) ∧ Fr n0 L ∧ h = h0
set_option maxRecDepth 65536 in
set_option maxHeartbeats 40000000 in
theorem own_gpath (l : Launch) (Z : State) (a0 : Array Value) (hw : ∀ d ∈ tables_1, d.before a0 Z = true) (ws : List Jvm.Cond) (a : Addr) (z : Addr) (h0 : Heap) (n0 : Nat) (O0 : Old Z n0 h0) (hp0 : Fld Z h0 a "com/example/anteroom/anteroom/rules/Finding" "path" "Ljava/lang/String;" (.ref z)) :
    MetFree l (⟨"com/example/anteroom/anteroom/rules/Finding", "path", "()Ljava/lang/String;"⟩ : MethodName) (head1 (Jvm.Cond.code (⟨"com/example/anteroom/anteroom/rules/Finding", "path", "()Ljava/lang/String;"⟩ : MethodName) prog_20_method_7_code 1 (some (.object "java/lang/String")) :: ws) ({ frames := 0, cells := 0, slots := 0, locals := 0 } : Room)) (fun aa_ U_ => aa_ = #[(.ref a)] ∧ Z.Warmed39 U_.vm ∧ U_.heap = h0) (fun _ _ _ _ _ => True) (fun _ U_ o_ V_ => ∃ v_ L_, o_ = .returned v_ ∧ Q_own_gpath Z a z h0 n0 v_ V_.heap L_ ∧ FrameEnd U_ o_ V_ L_ ({ frames := 0, cells := 0, slots := 0, locals := 0 } : Room).cells ({ frames := 0, cells := 0, slots := 0, locals := 0 } : Room).slots) := by
  refine MetFree.of_bodySF (plainFor_of_name own_pn_own_gpath) hisR ?_
  intro p e s m args below meth c s₁ Bd hml0 hP hK
  obtain ⟨rfl, hZ, hh⟩ := hP
  have hx := Bd.exec
  have hby := Bd.bytes
  have hml : c.maxLocals = 1 := hml0
  have hown : s.vm.findClass "com/example/anteroom/anteroom/rules/Finding" = some m.cls := findClass_of_methodNamed Bd.named
  have hnm := (name_of_methodNamed Bd.named Bd.method).1
  have X0 : Stand p l e ({ frames := 0, cells := 0, slots := 0, locals := 0 } : Room) s m #[(.ref a)] below meth c s₁ [] 0 0 := Stand.of_body Bd
  have e0 : s₁.heap = h0 := by rw [← hh, Bd.state]; rfl
  have N0 := Fr.nil n0
  have K0 : Keep h0 h0 [] := Keep.refl _ _
  have r0 : GoTo p.tables e below s₁ (own_F_own_gpath m a) s₁ (mkF m 0 #[.val (.ref a)] []) := fun tt_ kk_ => castTop (own_ef_own_gpath m a) kk_
  obtain ⟨T1, X1, e1, st1⟩ := getF X0 hx hZ hown (host := "") (Or.inl (hw _ (List.mem_of_getElem? (i := 67) rfl))) Via.refl e0 hp0 (g := (mkF m 1 #[.val (.ref a)] [(.ref a)])) rfl rfl (hb hby own_d_prog_20_method_7_code_1)
  obtain ⟨fs, hr, hrun, hended, hW, hsame⟩ := X1.leave (v := some (.ref z)) (fun h => by rw [Bd.returns] at h; cases h)
  refine ⟨_, _, r0 _ ?_, hrun, hended, _, _, rfl, ?_, ⟨_, rfl⟩, hW, hsame.mono (by decide) (by decide)⟩
  · show Steps p.tables e below (s₁.setTop (mkF m 0 #[.val (.ref a)] [])) _
    refine XS.aloadN X0.here hx rfl (hb hby own_d_prog_20_method_7_code_0) rfl rfl ?_
    show Steps p.tables e below (s₁.setTop (mkF m 1 #[.val (.ref a)] [(.ref a)])) _
    refine st1 _ ?_
    show Steps p.tables e below (T1.setTop (mkF m 4 #[.val (.ref a)] [(.ref z)])) _
    exact retOut X1 hx (t := (.object "java/lang/String")) Bd.returns rfl (Or.inr (Or.inr (Or.inr (Or.inr ⟨rfl, rfl, rfl⟩)))) (hb hby own_d_prog_20_method_7_code_4) hr
  · show Q_own_gpath Z a z h0 n0 _ T1.heap _
    rw [e1]
    exact ⟨rfl, N0, rfl⟩
theorem own_pn_own_gline : plainName "com/example/anteroom/anteroom/rules/Finding" = true := by first | (simp [plainName, overriddenIn]; done) | decide +kernel
theorem own_ef_own_gline (m : MethodId) (a : Addr) : entryFrame m #[(.ref a)] 1 = mkF m 0 #[.val (.ref a)] [] := by first | (simp [entryFrame, mkF, argsToLocals, own_cI, own_cJ, own_cR, own_cN]; done) | rfl
abbrev own_F_own_gline (m : MethodId) (a : Addr) : JFrame := entryFrame m #[(.ref a)] 1
def Q_own_gline (Z : State) (a : Addr) (z : Int32) (h0 : Heap) (n0 : Nat) (v : Option Value) (h : Heap) (L : List Loc) : Prop := v = some (.int z) ∧ Fr n0 L ∧ h = h0
set_option maxRecDepth 65536 in
set_option maxHeartbeats 40000000 in
theorem own_gline (l : Launch) (Z : State) (a0 : Array Value) (hw : ∀ d ∈ tables_1, d.before a0 Z = true) (ws : List Jvm.Cond) (a : Addr) (z : Int32) (h0 : Heap) (n0 : Nat) (O0 : Old Z n0 h0) (hp0 : Fld Z h0 a "com/example/anteroom/anteroom/rules/Finding" "line" "I" (.int z)) :
    MetFree l (⟨"com/example/anteroom/anteroom/rules/Finding", "line", "()I"⟩ : MethodName) (head1 (Jvm.Cond.code (⟨"com/example/anteroom/anteroom/rules/Finding", "line", "()I"⟩ : MethodName) prog_20_method_8_code 1 (some .int) :: ws) ({ frames := 0, cells := 0, slots := 0, locals := 0 } : Room)) (fun aa_ U_ => aa_ = #[(.ref a)] ∧ Z.Warmed39 U_.vm ∧ U_.heap = h0) (fun _ _ _ _ _ => True) (fun _ U_ o_ V_ => ∃ v_ L_, o_ = .returned v_ ∧ Q_own_gline Z a z h0 n0 v_ V_.heap L_ ∧ FrameEnd U_ o_ V_ L_ ({ frames := 0, cells := 0, slots := 0, locals := 0 } : Room).cells ({ frames := 0, cells := 0, slots := 0, locals := 0 } : Room).slots) := by
  refine MetFree.of_bodySF (plainFor_of_name own_pn_own_gline) hisR ?_
  intro p e s m args below meth c s₁ Bd hml0 hP hK
  obtain ⟨rfl, hZ, hh⟩ := hP
  have hx := Bd.exec
  have hby := Bd.bytes
  have hml : c.maxLocals = 1 := hml0
  have hown : s.vm.findClass "com/example/anteroom/anteroom/rules/Finding" = some m.cls := findClass_of_methodNamed Bd.named
  have hnm := (name_of_methodNamed Bd.named Bd.method).1
  have X0 : Stand p l e ({ frames := 0, cells := 0, slots := 0, locals := 0 } : Room) s m #[(.ref a)] below meth c s₁ [] 0 0 := Stand.of_body Bd
  have e0 : s₁.heap = h0 := by rw [← hh, Bd.state]; rfl
  have N0 := Fr.nil n0
  have K0 : Keep h0 h0 [] := Keep.refl _ _
  have r0 : GoTo p.tables e below s₁ (own_F_own_gline m a) s₁ (mkF m 0 #[.val (.ref a)] []) := fun tt_ kk_ => castTop (own_ef_own_gline m a) kk_
  obtain ⟨T1, X1, e1, st1⟩ := getF X0 hx hZ hown (host := "") (Or.inl (hw _ (List.mem_of_getElem? (i := 69) rfl))) Via.refl e0 hp0 (g := (mkF m 1 #[.val (.ref a)] [(.ref a)])) rfl rfl (hb hby own_d_prog_20_method_8_code_1)
  obtain ⟨fs, hr, hrun, hended, hW, hsame⟩ := X1.leave (v := some (.int z)) (fun h => by rw [Bd.returns] at h; cases h)
  refine ⟨_, _, r0 _ ?_, hrun, hended, _, _, rfl, ?_, ⟨_, rfl⟩, hW, hsame.mono (by decide) (by decide)⟩
  · show Steps p.tables e below (s₁.setTop (mkF m 0 #[.val (.ref a)] [])) _
    refine XS.aloadN X0.here hx rfl (hb hby own_d_prog_20_method_8_code_0) rfl rfl ?_
    show Steps p.tables e below (s₁.setTop (mkF m 1 #[.val (.ref a)] [(.ref a)])) _
    refine st1 _ ?_
    show Steps p.tables e below (T1.setTop (mkF m 4 #[.val (.ref a)] [(.int z)])) _
    exact retI X1 hx Bd.returns (hb hby own_d_prog_20_method_8_code_4) hr
  · show Q_own_gline Z a z h0 n0 _ T1.heap _
    rw [e1]
    exact ⟨rfl, N0, rfl⟩
theorem own_pn_own_gcolumn : plainName "com/example/anteroom/anteroom/rules/Finding" = true := by first | (simp [plainName, overriddenIn]; done) | decide +kernel
theorem own_ef_own_gcolumn (m : MethodId) (a : Addr) : entryFrame m #[(.ref a)] 1 = mkF m 0 #[.val (.ref a)] [] := by first | (simp [entryFrame, mkF, argsToLocals, own_cI, own_cJ, own_cR, own_cN]; done) | rfl
abbrev own_F_own_gcolumn (m : MethodId) (a : Addr) : JFrame := entryFrame m #[(.ref a)] 1
def Q_own_gcolumn (Z : State) (a : Addr) (z : Int32) (h0 : Heap) (n0 : Nat) (v : Option Value) (h : Heap) (L : List Loc) : Prop := v = some (.int z) ∧ Fr n0 L ∧ h = h0
set_option maxRecDepth 65536 in
set_option maxHeartbeats 40000000 in
theorem own_gcolumn (l : Launch) (Z : State) (a0 : Array Value) (hw : ∀ d ∈ tables_1, d.before a0 Z = true) (ws : List Jvm.Cond) (a : Addr) (z : Int32) (h0 : Heap) (n0 : Nat) (O0 : Old Z n0 h0) (hp0 : Fld Z h0 a "com/example/anteroom/anteroom/rules/Finding" "column" "I" (.int z)) :
    MetFree l (⟨"com/example/anteroom/anteroom/rules/Finding", "column", "()I"⟩ : MethodName) (head1 (Jvm.Cond.code (⟨"com/example/anteroom/anteroom/rules/Finding", "column", "()I"⟩ : MethodName) prog_20_method_9_code 1 (some .int) :: ws) ({ frames := 0, cells := 0, slots := 0, locals := 0 } : Room)) (fun aa_ U_ => aa_ = #[(.ref a)] ∧ Z.Warmed39 U_.vm ∧ U_.heap = h0) (fun _ _ _ _ _ => True) (fun _ U_ o_ V_ => ∃ v_ L_, o_ = .returned v_ ∧ Q_own_gcolumn Z a z h0 n0 v_ V_.heap L_ ∧ FrameEnd U_ o_ V_ L_ ({ frames := 0, cells := 0, slots := 0, locals := 0 } : Room).cells ({ frames := 0, cells := 0, slots := 0, locals := 0 } : Room).slots) := by
  refine MetFree.of_bodySF (plainFor_of_name own_pn_own_gcolumn) hisR ?_
  intro p e s m args below meth c s₁ Bd hml0 hP hK
  obtain ⟨rfl, hZ, hh⟩ := hP
  have hx := Bd.exec
  have hby := Bd.bytes
  have hml : c.maxLocals = 1 := hml0
  have hown : s.vm.findClass "com/example/anteroom/anteroom/rules/Finding" = some m.cls := findClass_of_methodNamed Bd.named
  have hnm := (name_of_methodNamed Bd.named Bd.method).1
  have X0 : Stand p l e ({ frames := 0, cells := 0, slots := 0, locals := 0 } : Room) s m #[(.ref a)] below meth c s₁ [] 0 0 := Stand.of_body Bd
  have e0 : s₁.heap = h0 := by rw [← hh, Bd.state]; rfl
  have N0 := Fr.nil n0
  have K0 : Keep h0 h0 [] := Keep.refl _ _
  have r0 : GoTo p.tables e below s₁ (own_F_own_gcolumn m a) s₁ (mkF m 0 #[.val (.ref a)] []) := fun tt_ kk_ => castTop (own_ef_own_gcolumn m a) kk_
  obtain ⟨T1, X1, e1, st1⟩ := getF X0 hx hZ hown (host := "") (Or.inl (hw _ (List.mem_of_getElem? (i := 71) rfl))) Via.refl e0 hp0 (g := (mkF m 1 #[.val (.ref a)] [(.ref a)])) rfl rfl (hb hby own_d_prog_20_method_9_code_1)
  obtain ⟨fs, hr, hrun, hended, hW, hsame⟩ := X1.leave (v := some (.int z)) (fun h => by rw [Bd.returns] at h; cases h)
  refine ⟨_, _, r0 _ ?_, hrun, hended, _, _, rfl, ?_, ⟨_, rfl⟩, hW, hsame.mono (by decide) (by decide)⟩
  · show Steps p.tables e below (s₁.setTop (mkF m 0 #[.val (.ref a)] [])) _
    refine XS.aloadN X0.here hx rfl (hb hby own_d_prog_20_method_9_code_0) rfl rfl ?_
    show Steps p.tables e below (s₁.setTop (mkF m 1 #[.val (.ref a)] [(.ref a)])) _
    refine st1 _ ?_
    show Steps p.tables e below (T1.setTop (mkF m 4 #[.val (.ref a)] [(.int z)])) _
    exact retI X1 hx Bd.returns (hb hby own_d_prog_20_method_9_code_4) hr
  · show Q_own_gcolumn Z a z h0 n0 _ T1.heap _
    rw [e1]
    exact ⟨rfl, N0, rfl⟩
theorem own_pn_own_grule : plainName "com/example/anteroom/anteroom/rules/Finding" = true := by first | (simp [plainName, overriddenIn]; done) | decide +kernel
theorem own_ef_own_grule (m : MethodId) (a : Addr) : entryFrame m #[(.ref a)] 1 = mkF m 0 #[.val (.ref a)] [] := by first | (simp [entryFrame, mkF, argsToLocals, own_cI, own_cJ, own_cR, own_cN]; done) | rfl
abbrev own_F_own_grule (m : MethodId) (a : Addr) : JFrame := entryFrame m #[(.ref a)] 1
def Q_own_grule (Z : State) (a : Addr) (z : Addr) (h0 : Heap) (n0 : Nat) (v : Option Value) (h : Heap) (L : List Loc) : Prop := v = some (.ref z) ∧ Fr n0 L ∧ h = h0
set_option maxRecDepth 65536 in
set_option maxHeartbeats 40000000 in
theorem own_grule (l : Launch) (Z : State) (a0 : Array Value) (hw : ∀ d ∈ tables_1, d.before a0 Z = true) (ws : List Jvm.Cond) (a : Addr) (z : Addr) (h0 : Heap) (n0 : Nat) (O0 : Old Z n0 h0) (hp0 : Fld Z h0 a "com/example/anteroom/anteroom/rules/Finding" "rule" "Lcom/example/anteroom/anteroom/rules/Rule;" (.ref z)) :
    MetFree l (⟨"com/example/anteroom/anteroom/rules/Finding", "rule", "()Lcom/example/anteroom/anteroom/rules/Rule;"⟩ : MethodName) (head1 (Jvm.Cond.code (⟨"com/example/anteroom/anteroom/rules/Finding", "rule", "()Lcom/example/anteroom/anteroom/rules/Rule;"⟩ : MethodName) prog_20_method_10_code 1 (some (.object "com/example/anteroom/anteroom/rules/Rule")) :: ws) ({ frames := 0, cells := 0, slots := 0, locals := 0 } : Room)) (fun aa_ U_ => aa_ = #[(.ref a)] ∧ Z.Warmed39 U_.vm ∧ U_.heap = h0) (fun _ _ _ _ _ => True) (fun _ U_ o_ V_ => ∃ v_ L_, o_ = .returned v_ ∧ Q_own_grule Z a z h0 n0 v_ V_.heap L_ ∧ FrameEnd U_ o_ V_ L_ ({ frames := 0, cells := 0, slots := 0, locals := 0 } : Room).cells ({ frames := 0, cells := 0, slots := 0, locals := 0 } : Room).slots) := by
  refine MetFree.of_bodySF (plainFor_of_name own_pn_own_grule) hisR ?_
  intro p e s m args below meth c s₁ Bd hml0 hP hK
  obtain ⟨rfl, hZ, hh⟩ := hP
  have hx := Bd.exec
  have hby := Bd.bytes
  have hml : c.maxLocals = 1 := hml0
  have hown : s.vm.findClass "com/example/anteroom/anteroom/rules/Finding" = some m.cls := findClass_of_methodNamed Bd.named
  have hnm := (name_of_methodNamed Bd.named Bd.method).1
  have X0 : Stand p l e ({ frames := 0, cells := 0, slots := 0, locals := 0 } : Room) s m #[(.ref a)] below meth c s₁ [] 0 0 := Stand.of_body Bd
  have e0 : s₁.heap = h0 := by rw [← hh, Bd.state]; rfl
  have N0 := Fr.nil n0
  have K0 : Keep h0 h0 [] := Keep.refl _ _
  have r0 : GoTo p.tables e below s₁ (own_F_own_grule m a) s₁ (mkF m 0 #[.val (.ref a)] []) := fun tt_ kk_ => castTop (own_ef_own_grule m a) kk_
  obtain ⟨T1, X1, e1, st1⟩ := getF X0 hx hZ hown (host := "") (Or.inl (hw _ (List.mem_of_getElem? (i := 73) rfl))) Via.refl e0 hp0 (g := (mkF m 1 #[.val (.ref a)] [(.ref a)])) rfl rfl (hb hby own_d_prog_20_method_10_code_1)
  obtain ⟨fs, hr, hrun, hended, hW, hsame⟩ := X1.leave (v := some (.ref z)) (fun h => by rw [Bd.returns] at h; cases h)
  refine ⟨_, _, r0 _ ?_, hrun, hended, _, _, rfl, ?_, ⟨_, rfl⟩, hW, hsame.mono (by decide) (by decide)⟩
  · show Steps p.tables e below (s₁.setTop (mkF m 0 #[.val (.ref a)] [])) _
    refine XS.aloadN X0.here hx rfl (hb hby own_d_prog_20_method_10_code_0) rfl rfl ?_
    show Steps p.tables e below (s₁.setTop (mkF m 1 #[.val (.ref a)] [(.ref a)])) _
    refine st1 _ ?_
    show Steps p.tables e below (T1.setTop (mkF m 4 #[.val (.ref a)] [(.ref z)])) _
    exact retOut X1 hx (t := (.object "com/example/anteroom/anteroom/rules/Rule")) Bd.returns rfl (Or.inr (Or.inr (Or.inr (Or.inr ⟨rfl, rfl, rfl⟩)))) (hb hby own_d_prog_20_method_10_code_4) hr
  · show Q_own_grule Z a z h0 n0 _ T1.heap _
    rw [e1]
    exact ⟨rfl, N0, rfl⟩
theorem own_pn_own_gmessage : plainName "com/example/anteroom/anteroom/rules/Finding" = true := by first | (simp [plainName, overriddenIn]; done) | decide +kernel
theorem own_ef_own_gmessage (m : MethodId) (a : Addr) : entryFrame m #[(.ref a)] 1 = mkF m 0 #[.val (.ref a)] [] := by first | (simp [entryFrame, mkF, argsToLocals, own_cI, own_cJ, own_cR, own_cN]; done) | rfl
abbrev own_F_own_gmessage (m : MethodId) (a : Addr) : JFrame := entryFrame m #[(.ref a)] 1
def Q_own_gmessage (Z : State) (a : Addr) (z : Addr) (h0 : Heap) (n0 : Nat) (v : Option Value) (h : Heap) (L : List Loc) : Prop := v = some (.ref z) ∧ Fr n0 L ∧ h = h0
set_option maxRecDepth 65536 in
set_option maxHeartbeats 40000000 in
theorem own_gmessage (l : Launch) (Z : State) (a0 : Array Value) (hw : ∀ d ∈ tables_1, d.before a0 Z = true) (ws : List Jvm.Cond) (a : Addr) (z : Addr) (h0 : Heap) (n0 : Nat) (O0 : Old Z n0 h0) (hp0 : Fld Z h0 a "com/example/anteroom/anteroom/rules/Finding" "message" "Ljava/lang/String;" (.ref z)) :
    MetFree l (⟨"com/example/anteroom/anteroom/rules/Finding", "message", "()Ljava/lang/String;"⟩ : MethodName) (head1 (Jvm.Cond.code (⟨"com/example/anteroom/anteroom/rules/Finding", "message", "()Ljava/lang/String;"⟩ : MethodName) prog_20_method_11_code 1 (some (.object "java/lang/String")) :: ws) ({ frames := 0, cells := 0, slots := 0, locals := 0 } : Room)) (fun aa_ U_ => aa_ = #[(.ref a)] ∧ Z.Warmed39 U_.vm ∧ U_.heap = h0) (fun _ _ _ _ _ => True) (fun _ U_ o_ V_ => ∃ v_ L_, o_ = .returned v_ ∧ Q_own_gmessage Z a z h0 n0 v_ V_.heap L_ ∧ FrameEnd U_ o_ V_ L_ ({ frames := 0, cells := 0, slots := 0, locals := 0 } : Room).cells ({ frames := 0, cells := 0, slots := 0, locals := 0 } : Room).slots) := by
  refine MetFree.of_bodySF (plainFor_of_name own_pn_own_gmessage) hisR ?_
  intro p e s m args below meth c s₁ Bd hml0 hP hK
  obtain ⟨rfl, hZ, hh⟩ := hP
  have hx := Bd.exec
  have hby := Bd.bytes
  have hml : c.maxLocals = 1 := hml0
  have hown : s.vm.findClass "com/example/anteroom/anteroom/rules/Finding" = some m.cls := findClass_of_methodNamed Bd.named
  have hnm := (name_of_methodNamed Bd.named Bd.method).1
  have X0 : Stand p l e ({ frames := 0, cells := 0, slots := 0, locals := 0 } : Room) s m #[(.ref a)] below meth c s₁ [] 0 0 := Stand.of_body Bd
  have e0 : s₁.heap = h0 := by rw [← hh, Bd.state]; rfl
  have N0 := Fr.nil n0
  have K0 : Keep h0 h0 [] := Keep.refl _ _
  have r0 : GoTo p.tables e below s₁ (own_F_own_gmessage m a) s₁ (mkF m 0 #[.val (.ref a)] []) := fun tt_ kk_ => castTop (own_ef_own_gmessage m a) kk_
  obtain ⟨T1, X1, e1, st1⟩ := getF X0 hx hZ hown (host := "") (Or.inl (hw _ (List.mem_of_getElem? (i := 75) rfl))) Via.refl e0 hp0 (g := (mkF m 1 #[.val (.ref a)] [(.ref a)])) rfl rfl (hb hby own_d_prog_20_method_11_code_1)
  obtain ⟨fs, hr, hrun, hended, hW, hsame⟩ := X1.leave (v := some (.ref z)) (fun h => by rw [Bd.returns] at h; cases h)
  refine ⟨_, _, r0 _ ?_, hrun, hended, _, _, rfl, ?_, ⟨_, rfl⟩, hW, hsame.mono (by decide) (by decide)⟩
  · show Steps p.tables e below (s₁.setTop (mkF m 0 #[.val (.ref a)] [])) _
    refine XS.aloadN X0.here hx rfl (hb hby own_d_prog_20_method_11_code_0) rfl rfl ?_
    show Steps p.tables e below (s₁.setTop (mkF m 1 #[.val (.ref a)] [(.ref a)])) _
    refine st1 _ ?_
    show Steps p.tables e below (T1.setTop (mkF m 4 #[.val (.ref a)] [(.ref z)])) _
    exact retOut X1 hx (t := (.object "java/lang/String")) Bd.returns rfl (Or.inr (Or.inr (Or.inr (Or.inr ⟨rfl, rfl, rfl⟩)))) (hb hby own_d_prog_20_method_11_code_4) hr
  · show Q_own_gmessage Z a z h0 n0 _ T1.heap _
    rw [e1]
    exact ⟨rfl, N0, rfl⟩
theorem own_pn_own_eqself : plainName "java/lang/String" = true := by first | (simp [plainName, overriddenIn]; done) | decide +kernel
theorem own_ef_own_eqself (m : MethodId) (a : Addr) : entryFrame m #[(.ref a), (.ref a)] 3 = mkF m 0 #[.val (.ref a), .val (.ref a), .unset] [] := by first | (simp [entryFrame, mkF, argsToLocals, own_cI, own_cJ, own_cR, own_cN]; done) | rfl
abbrev own_F_own_eqself (m : MethodId) (a : Addr) : JFrame := entryFrame m #[(.ref a), (.ref a)] 3
def Q_own_eqself (Z : State) (a : Addr) (h0 : Heap) (n0 : Nat) (v : Option Value) (h : Heap) (L : List Loc) : Prop := v = some (.int (1 : Int32)) ∧ Fr n0 L ∧ h = h0
set_option maxRecDepth 65536 in
set_option maxHeartbeats 40000000 in
theorem own_eqself (l : Launch) (Z : State) (a0 : Array Value) (hw : ∀ d ∈ tables_1, d.before a0 Z = true) (ws : List Jvm.Cond) (a : Addr) (h0 : Heap) (n0 : Nat) (O0 : Old Z n0 h0) :
    MetFree l (⟨"java/lang/String", "equals", "(Ljava/lang/Object;)Z"⟩ : MethodName) (head1 (Jvm.Cond.code (⟨"java/lang/String", "equals", "(Ljava/lang/Object;)Z"⟩ : MethodName) jdk_42_method_66_code 3 (some .boolean) :: ws) ({ frames := 0, cells := 0, slots := 0, locals := 0 } : Room)) (fun aa_ U_ => aa_ = #[(.ref a), (.ref a)] ∧ Z.Warmed39 U_.vm ∧ U_.heap = h0) (fun _ _ _ _ _ => True) (fun _ U_ o_ V_ => ∃ v_ L_, o_ = .returned v_ ∧ Q_own_eqself Z a h0 n0 v_ V_.heap L_ ∧ FrameEnd U_ o_ V_ L_ ({ frames := 0, cells := 0, slots := 0, locals := 0 } : Room).cells ({ frames := 0, cells := 0, slots := 0, locals := 0 } : Room).slots) := by
  refine MetFree.of_bodySF (plainFor_of_name own_pn_own_eqself) hisR ?_
  intro p e s m args below meth c s₁ Bd hml0 hP hK
  obtain ⟨rfl, hZ, hh⟩ := hP
  have hx := Bd.exec
  have hby := Bd.bytes
  have hml : c.maxLocals = 3 := hml0
  have hown : s.vm.findClass "java/lang/String" = some m.cls := findClass_of_methodNamed Bd.named
  have hnm := (name_of_methodNamed Bd.named Bd.method).1
  have X0 : Stand p l e ({ frames := 0, cells := 0, slots := 0, locals := 0 } : Room) s m #[(.ref a), (.ref a)] below meth c s₁ [] 0 0 := Stand.of_body Bd
  have e0 : s₁.heap = h0 := by rw [← hh, Bd.state]; rfl
  have N0 := Fr.nil n0
  have K0 : Keep h0 h0 [] := Keep.refl _ _
  have r0 : GoTo p.tables e below s₁ (own_F_own_eqself m a) s₁ (mkF m 0 #[.val (.ref a), .val (.ref a), .unset] []) := fun tt_ kk_ => castTop (own_ef_own_eqself m a) kk_
  obtain ⟨fs, hr, hrun, hended, hW, hsame⟩ := X0.leave (v := some (.int (nar .boolean (1 : Int32)))) (fun h => by rw [Bd.returns] at h; cases h)
  refine ⟨_, _, r0 _ ?_, hrun, hended, _, _, rfl, ?_, ⟨_, rfl⟩, hW, hsame.mono (by decide) (by decide)⟩
  · show Steps p.tables e below (s₁.setTop (mkF m 0 #[.val (.ref a), .val (.ref a), .unset] [])) _
    refine XS.aloadN X0.here hx rfl (hb hby own_d_jdk_42_method_66_code_0) rfl rfl ?_
    show Steps p.tables e below (s₁.setTop (mkF m 1 #[.val (.ref a), .val (.ref a), .unset] [(.ref a)])) _
    refine XS.aloadN X0.here hx rfl (hb hby own_d_jdk_42_method_66_code_1) rfl rfl ?_
    show Steps p.tables e below (s₁.setTop (mkF m 2 #[.val (.ref a), .val (.ref a), .unset] [(.ref a), (.ref a)])) _
    refine Jvm.RoadKit.acmp (g := (mkF m 2 #[.val (.ref a), .val (.ref a), .unset] [(.ref a), (.ref a)])) X0 hx rfl rfl rfl (pc0 := 2) (pc' := 5) (same := true) rfl (hb hby own_d_jdk_42_method_66_code_2) rfl (decide_eq_true (congrArg Value.ref rfl)) (by decide) (by decide) ?_
    show Steps p.tables e below (s₁.setTop (mkF m 5 #[.val (.ref a), .val (.ref a), .unset] [])) _
    refine XS.iconst X0.here hx rfl (hb hby own_d_jdk_42_method_66_code_5) ?_
    show Steps p.tables e below (s₁.setTop (mkF m 6 #[.val (.ref a), .val (.ref a), .unset] [(.int (1 : Int32))])) _
    exact retN X0 hx (t := .boolean) Bd.returns (by simp) (hb hby own_d_jdk_42_method_66_code_6) hr
  · show Q_own_eqself Z a h0 n0 _ s₁.heap _
    rw [e0]
    exact ⟨rfl, N0, rfl⟩
theorem own_pn_own_law : plainName "com/example/anteroom/anteroom/rules/PlaceFindingPinLaw" = true := by first | (simp [plainName, overriddenIn]; done) | decide +kernel
theorem own_ef_own_law (m : MethodId) (j0 : Int32) (j1 : Int32) (j2 : Int32) (j3 : Int32) (j4 : Int32) : entryFrame m #[(.int j0), (.int j1), (.int j2), (.int j3), (.int j4)] maxLocals = mkF m 0 #[.val (.int j0), .val (.int j1), .val (.int j2), .val (.int j3), .val (.int j4), .unset, .unset, .unset, .unset, .unset, .unset, .unset, .unset] [] := by first | (simp [entryFrame, mkF, argsToLocals, own_cI, own_cJ, own_cR, own_cN, maxLocals]; done) | rfl
abbrev own_F_own_law (m : MethodId) (j0 : Int32) (j1 : Int32) (j2 : Int32) (j3 : Int32) (j4 : Int32) : JFrame := entryFrame m #[(.int j0), (.int j1), (.int j2), (.int j3), (.int j4)] maxLocals
def Q_own_law (Z : State) (j0 : Int32) (j1 : Int32) (j2 : Int32) (j3 : Int32) (j4 : Int32) (u0 : Addr) (u1 : Addr) (u2 : Addr) (u3 : Addr) (G1 : Int32) (h0 : Heap) (n0 : Nat) (v : Option Value) (h : Heap) (L : List Loc) : Prop := v = some (.int (1 : Int32)) ∧ Fr n0 L
set_option maxRecDepth 65536 in
set_option maxHeartbeats 40000000 in
theorem own_law (l : Launch) (Z : State) (a0 : Array Value) (hw : ∀ d ∈ tables_1, d.before a0 Z = true) (ws : List Jvm.Cond) (j0 : Int32) (j1 : Int32) (j2 : Int32) (j3 : Int32) (j4 : Int32) (u0 : Addr) (u1 : Addr) (u2 : Addr) (u3 : Addr) (G1 : Int32) (h0 : Heap) (n0 : Nat) (O0 : Old Z n0 h0) (hp0 : Sta Z Z.heap "com/example/anteroom/anteroom/rules/Rule" "PARSE" "Lcom/example/anteroom/anteroom/rules/Rule;" (.ref u0)) (hp1 : Sta Z Z.heap "com/example/anteroom/anteroom/rules/Rule" "UNRESOLVED_SUPERTYPE" "Lcom/example/anteroom/anteroom/rules/Rule;" (.ref u1)) (hp2 : Sta Z Z.heap "com/example/anteroom/anteroom/rules/Rule" "EARLY_THIS" "Lcom/example/anteroom/anteroom/rules/Rule;" (.ref u2)) (hp3 : Sta Z Z.heap "com/example/anteroom/anteroom/rules/Rule" "NOT_JUDGED" "Lcom/example/anteroom/anteroom/rules/Rule;" (.ref u3)) (hp4 : Sta Z Z.heap "java/lang/String" "COMPACT_STRINGS" "Z" (.int G1)) (hG1 : ¬ G1 = (0 : Int32)) :
    MetFree l x (head1 (Jvm.Cond.code x code maxLocals ret :: ws) room_1) (fun aa_ U_ => aa_ = #[(.int j0), (.int j1), (.int j2), (.int j3), (.int j4)] ∧ Z.Warmed39 U_.vm ∧ U_.heap = h0) (fun _ _ _ _ _ => True) (fun _ U_ o_ V_ => ∃ v_ L_, o_ = .returned v_ ∧ Q_own_law Z j0 j1 j2 j3 j4 u0 u1 u2 u3 G1 h0 n0 v_ V_.heap L_ ∧ FrameEnd U_ o_ V_ L_ room_1.cells room_1.slots) := by
  refine MetFree.of_bodySF (plainFor_of_name own_pn_own_law) hisR ?_
  intro p e s m args below meth c s₁ Bd hml0 hP hK
  obtain ⟨rfl, hZ, hh⟩ := hP
  have hx := Bd.exec
  have hby := Bd.bytes
  have hml : c.maxLocals = 13 := hml0
  have hown : s.vm.findClass "com/example/anteroom/anteroom/rules/PlaceFindingPinLaw" = some m.cls := findClass_of_methodNamed Bd.named
  have hnm := (name_of_methodNamed Bd.named Bd.method).1
  have X0 : Stand p l e room_1 s m #[(.int j0), (.int j1), (.int j2), (.int j3), (.int j4)] below meth c s₁ [] 0 0 := Stand.of_body Bd
  have e0 : s₁.heap = h0 := by rw [← hh, Bd.state]; rfl
  have N0 := Fr.nil n0
  have K0 : Keep h0 h0 [] := Keep.refl _ _
  have r0 : GoTo p.tables e below s₁ (own_F_own_law m j0 j1 j2 j3 j4) s₁ (mkF m 0 #[.val (.int j0), .val (.int j1), .val (.int j2), .val (.int j3), .val (.int j4), .unset, .unset, .unset, .unset, .unset, .unset, .unset, .unset] []) := fun tt_ kk_ => castTop (own_ef_own_law m j0 j1 j2 j3 j4) kk_
  obtain ⟨T1, h1, k1, X1, e1, E1, A1, st1⟩ := newP X0 hx hZ (hw _ (List.mem_of_getElem? (i := 0) rfl)) e0 (g := (mkF m 1 #[.val (.int j0), .val (.int j1), .val (.int j2), .val (.int j3), .val (.int j4), .unset, .unset, .unset, .unset, .unset, .unset, .unset, .unset] [(.int (2 : Int32))])) rfl (hb hby at_1) rfl (by decide) (cap := 2) (by decide) (by decide) (by decide) (by decide)
  obtain ⟨b1, gg1⟩ : ∃ z, z = h0.size := ⟨_, rfl⟩
  rw [← gg1] at A1 st1
  have g2 : n0 ≤ b1 := Nat.le_trans (Nat.le_trans (own_le O0) K0.1) (Nat.le_of_eq gg1.symm)
  have b3 : h0.size ≤ b1 := Nat.le_trans K0.1 (Nat.le_of_eq gg1.symm)
  have K4 : Keep h0 h1 [] := K0.ext E1
  have V1 : Arv Z h1 b1 k1 .char (2 : Int32) [(.int (0 : Int32)), (.int (0 : Int32))] (.int (0 : Int32)) := (Arv.new A1 (by decide)).pad (pad_rep [] (.int (0 : Int32)) 2)
  have r5 : GoTo p.tables e below s₁ (own_F_own_law m j0 j1 j2 j3 j4) T1 (mkF m 14 #[.val (.int j0), .val (.int j1), .val (.int j2), .val (.int j3), .val (.int j4), .val (.ref b1), .unset, .unset, .unset, .unset, .unset, .unset, .unset] [(.int ((j2 &&& (255 : Int32)).toUInt32.toUInt16.toUInt32.toInt32)), (.int (0 : Int32)), (.ref b1)]) := fun tt_ kk_ => r0 tt_ (by
      show Steps p.tables e below (s₁.setTop (mkF m 0 #[.val (.int j0), .val (.int j1), .val (.int j2), .val (.int j3), .val (.int j4), .unset, .unset, .unset, .unset, .unset, .unset, .unset, .unset] [])) _
      refine XS.iconst X0.here hx rfl (hb hby at_0) ?_
      show Steps p.tables e below (s₁.setTop (mkF m 1 #[.val (.int j0), .val (.int j1), .val (.int j2), .val (.int j3), .val (.int j4), .unset, .unset, .unset, .unset, .unset, .unset, .unset, .unset] [(.int (2 : Int32))])) _
      refine st1 _ ?_
      show Steps p.tables e below (T1.setTop (mkF m 3 #[.val (.int j0), .val (.int j1), .val (.int j2), .val (.int j3), .val (.int j4), .unset, .unset, .unset, .unset, .unset, .unset, .unset, .unset] [(.ref b1)])) _
      refine XS.astore X1.here hx rfl (hb hby at_3) rfl rfl (l' := #[.val (.int j0), .val (.int j1), .val (.int j2), .val (.int j3), .val (.int j4), .val (.ref b1), .unset, .unset, .unset, .unset, .unset, .unset, .unset]) rfl ?_
      show Steps p.tables e below (T1.setTop (mkF m 5 #[.val (.int j0), .val (.int j1), .val (.int j2), .val (.int j3), .val (.int j4), .val (.ref b1), .unset, .unset, .unset, .unset, .unset, .unset, .unset] [])) _
      refine XS.aload X1.here hx rfl (hb hby at_5) rfl rfl ?_
      show Steps p.tables e below (T1.setTop (mkF m 7 #[.val (.int j0), .val (.int j1), .val (.int j2), .val (.int j3), .val (.int j4), .val (.ref b1), .unset, .unset, .unset, .unset, .unset, .unset, .unset] [(.ref b1)])) _
      refine XS.iconst X1.here hx rfl (hb hby at_7) ?_
      show Steps p.tables e below (T1.setTop (mkF m 8 #[.val (.int j0), .val (.int j1), .val (.int j2), .val (.int j3), .val (.int j4), .val (.ref b1), .unset, .unset, .unset, .unset, .unset, .unset, .unset] [(.int (0 : Int32)), (.ref b1)])) _
      refine XS.iloadN X1.here hx rfl (hb hby at_8) rfl ?_
      show Steps p.tables e below (T1.setTop (mkF m 9 #[.val (.int j0), .val (.int j1), .val (.int j2), .val (.int j3), .val (.int j4), .val (.ref b1), .unset, .unset, .unset, .unset, .unset, .unset, .unset] [(.int j2), (.int (0 : Int32)), (.ref b1)])) _
      refine XS.sipush X1.here hx rfl (hb hby at_9) ?_
      show Steps p.tables e below (T1.setTop (mkF m 12 #[.val (.int j0), .val (.int j1), .val (.int j2), .val (.int j3), .val (.int j4), .val (.ref b1), .unset, .unset, .unset, .unset, .unset, .unset, .unset] [(.int (255 : Int32)), (.int j2), (.int (0 : Int32)), (.ref b1)])) _
      refine XS.iand X1.here hx rfl (hb hby at_12) rfl ?_
      show Steps p.tables e below (T1.setTop (mkF m 13 #[.val (.int j0), .val (.int j1), .val (.int j2), .val (.int j3), .val (.int j4), .val (.ref b1), .unset, .unset, .unset, .unset, .unset, .unset, .unset] [(.int (j2 &&& (255 : Int32))), (.int (0 : Int32)), (.ref b1)])) _
      refine XS.i2c X1.here hx rfl (hb hby at_13) rfl ?_
      show Steps p.tables e below (T1.setTop (mkF m 14 #[.val (.int j0), .val (.int j1), .val (.int j2), .val (.int j3), .val (.int j4), .val (.ref b1), .unset, .unset, .unset, .unset, .unset, .unset, .unset] [(.int ((j2 &&& (255 : Int32)).toUInt32.toUInt16.toUInt32.toInt32)), (.int (0 : Int32)), (.ref b1)])) _
      exact kk_)
  obtain ⟨c0, h_c0⟩ : ∃ z : Int32, z = ((j2 &&& (255 : Int32)).toUInt32.toUInt16.toUInt32.toInt32) := ⟨_, rfl⟩
  have r6 : GoTo p.tables e below s₁ (own_F_own_law m j0 j1 j2 j3 j4) T1 (mkF m 14 #[.val (.int j0), .val (.int j1), .val (.int j2), .val (.int j3), .val (.int j4), .val (.ref b1), .unset, .unset, .unset, .unset, .unset, .unset, .unset] [(.int c0), (.int (0 : Int32)), (.ref b1)]) := by rw [h_c0]; exact r5
  have hr_c0 := own_chr j2 h_c0
  obtain ⟨cl7, Ar7, q7, S7, NN7, H7, G7⟩ := id V1
  have hin7 : ¬ ((0 : Int32) < 0 ∨ cl7.slots.size ≤ ((0 : Int32)).toNatClampNeg) := inb_of S7 ⟨by decide, by decide⟩
  obtain ⟨T8, h8, X8, e8, W8, st8⟩ := stC X1 hx hZ e1 Ar7 (j := (0 : Int32)) hin7 (g := (mkF m 14 #[.val (.int j0), .val (.int j1), .val (.int j2), .val (.int j3), .val (.int j4), .val (.ref b1), .unset, .unset, .unset, .unset, .unset, .unset, .unset] [(.int c0), (.int (0 : Int32)), (.ref b1)])) rfl rfl (hb hby at_14)
  have K9 : Keep h0 h8 [] := K4.wr W8 (Or.inr b3)
  have V8 : Arv Z h8 b1 k1 .char (2 : Int32) [(.int (nar .char c0)), (.int (0 : Int32))] (.int (0 : Int32)) := Arv.set Ar7 q7 S7 NN7 H7 G7 (fits_nar_char _) W8 0 rfl (Nat.le_of_ble_eq_true rfl)
  have Vs8 : Arv Z h8 b1 k1 .char (2 : Int32) [(.int c0), (.int (0 : Int32))] (.int (0 : Int32)) := by rw [show (nar .char c0) = c0 from hr_c0.2] at V8; exact V8
  have N8 := Fr.snoc X8 N0 g2
  have r10 : GoTo p.tables e below s₁ (own_F_own_law m j0 j1 j2 j3 j4) T8 (mkF m 27 #[.val (.int j0), .val (.int j1), .val (.int j2), .val (.int j3), .val (.int j4), .val (.ref b1), .unset, .unset, .unset, .unset, .unset, .unset, .unset] [(.int ((((j2.toUInt32 >>> ((8 : Int32) &&& 31).toUInt32).toInt32) &&& (255 : Int32)).toUInt32.toUInt16.toUInt32.toInt32)), (.int (1 : Int32)), (.ref b1)]) := fun tt_ kk_ => r6 tt_ (by
      show Steps p.tables e below (T1.setTop (mkF m 14 #[.val (.int j0), .val (.int j1), .val (.int j2), .val (.int j3), .val (.int j4), .val (.ref b1), .unset, .unset, .unset, .unset, .unset, .unset, .unset] [(.int c0), (.int (0 : Int32)), (.ref b1)])) _
      refine st8 _ ?_
      show Steps p.tables e below (T8.setTop (mkF m 15 #[.val (.int j0), .val (.int j1), .val (.int j2), .val (.int j3), .val (.int j4), .val (.ref b1), .unset, .unset, .unset, .unset, .unset, .unset, .unset] [])) _
      refine XS.aload X8.here hx rfl (hb hby at_15) rfl rfl ?_
      show Steps p.tables e below (T8.setTop (mkF m 17 #[.val (.int j0), .val (.int j1), .val (.int j2), .val (.int j3), .val (.int j4), .val (.ref b1), .unset, .unset, .unset, .unset, .unset, .unset, .unset] [(.ref b1)])) _
      refine XS.iconst X8.here hx rfl (hb hby at_17) ?_
      show Steps p.tables e below (T8.setTop (mkF m 18 #[.val (.int j0), .val (.int j1), .val (.int j2), .val (.int j3), .val (.int j4), .val (.ref b1), .unset, .unset, .unset, .unset, .unset, .unset, .unset] [(.int (1 : Int32)), (.ref b1)])) _
      refine XS.iloadN X8.here hx rfl (hb hby at_18) rfl ?_
      show Steps p.tables e below (T8.setTop (mkF m 19 #[.val (.int j0), .val (.int j1), .val (.int j2), .val (.int j3), .val (.int j4), .val (.ref b1), .unset, .unset, .unset, .unset, .unset, .unset, .unset] [(.int j2), (.int (1 : Int32)), (.ref b1)])) _
      refine XS.bipush X8.here hx rfl (hb hby at_19) ?_
      show Steps p.tables e below (T8.setTop (mkF m 21 #[.val (.int j0), .val (.int j1), .val (.int j2), .val (.int j3), .val (.int j4), .val (.ref b1), .unset, .unset, .unset, .unset, .unset, .unset, .unset] [(.int (8 : Int32)), (.int j2), (.int (1 : Int32)), (.ref b1)])) _
      refine XS.iushr X8.here hx rfl (hb hby at_21) rfl ?_
      show Steps p.tables e below (T8.setTop (mkF m 22 #[.val (.int j0), .val (.int j1), .val (.int j2), .val (.int j3), .val (.int j4), .val (.ref b1), .unset, .unset, .unset, .unset, .unset, .unset, .unset] [(.int ((j2.toUInt32 >>> ((8 : Int32) &&& 31).toUInt32).toInt32)), (.int (1 : Int32)), (.ref b1)])) _
      refine XS.sipush X8.here hx rfl (hb hby at_22) ?_
      show Steps p.tables e below (T8.setTop (mkF m 25 #[.val (.int j0), .val (.int j1), .val (.int j2), .val (.int j3), .val (.int j4), .val (.ref b1), .unset, .unset, .unset, .unset, .unset, .unset, .unset] [(.int (255 : Int32)), (.int ((j2.toUInt32 >>> ((8 : Int32) &&& 31).toUInt32).toInt32)), (.int (1 : Int32)), (.ref b1)])) _
      refine XS.iand X8.here hx rfl (hb hby at_25) rfl ?_
      show Steps p.tables e below (T8.setTop (mkF m 26 #[.val (.int j0), .val (.int j1), .val (.int j2), .val (.int j3), .val (.int j4), .val (.ref b1), .unset, .unset, .unset, .unset, .unset, .unset, .unset] [(.int (((j2.toUInt32 >>> ((8 : Int32) &&& 31).toUInt32).toInt32) &&& (255 : Int32))), (.int (1 : Int32)), (.ref b1)])) _
      refine XS.i2c X8.here hx rfl (hb hby at_26) rfl ?_
      show Steps p.tables e below (T8.setTop (mkF m 27 #[.val (.int j0), .val (.int j1), .val (.int j2), .val (.int j3), .val (.int j4), .val (.ref b1), .unset, .unset, .unset, .unset, .unset, .unset, .unset] [(.int ((((j2.toUInt32 >>> ((8 : Int32) &&& 31).toUInt32).toInt32) &&& (255 : Int32)).toUInt32.toUInt16.toUInt32.toInt32)), (.int (1 : Int32)), (.ref b1)])) _
      exact kk_)
  obtain ⟨c1, h_c1⟩ : ∃ z : Int32, z = ((((j2.toUInt32 >>> ((8 : Int32) &&& 31).toUInt32).toInt32) &&& (255 : Int32)).toUInt32.toUInt16.toUInt32.toInt32) := ⟨_, rfl⟩
  have r11 : GoTo p.tables e below s₁ (own_F_own_law m j0 j1 j2 j3 j4) T8 (mkF m 27 #[.val (.int j0), .val (.int j1), .val (.int j2), .val (.int j3), .val (.int j4), .val (.ref b1), .unset, .unset, .unset, .unset, .unset, .unset, .unset] [(.int c1), (.int (1 : Int32)), (.ref b1)]) := by rw [h_c1]; exact r10
  have hr_c1 := own_chr ((j2.toUInt32 >>> ((8 : Int32) &&& 31).toUInt32).toInt32) h_c1
  obtain ⟨cl12, Ar12, q12, S12, NN12, H12, G12⟩ := id Vs8
  have hin12 : ¬ ((1 : Int32) < 0 ∨ cl12.slots.size ≤ ((1 : Int32)).toNatClampNeg) := inb_of S12 ⟨by decide, by decide⟩
  obtain ⟨T13, h13, X13, e13, W13, st13⟩ := stC X8 hx hZ e8 Ar12 (j := (1 : Int32)) hin12 (g := (mkF m 27 #[.val (.int j0), .val (.int j1), .val (.int j2), .val (.int j3), .val (.int j4), .val (.ref b1), .unset, .unset, .unset, .unset, .unset, .unset, .unset] [(.int c1), (.int (1 : Int32)), (.ref b1)])) rfl rfl (hb hby at_27)
  have K14 : Keep h0 h13 [] := K9.wr W13 (Or.inr b3)
  have V13 : Arv Z h13 b1 k1 .char (2 : Int32) [(.int c0), (.int (nar .char c1))] (.int (0 : Int32)) := Arv.set Ar12 q12 S12 NN12 H12 G12 (fits_nar_char _) W13 1 rfl (Nat.le_of_ble_eq_true rfl)
  have Vs13 : Arv Z h13 b1 k1 .char (2 : Int32) [(.int c0), (.int c1)] (.int (0 : Int32)) := by rw [show (nar .char c1) = c1 from hr_c1.2] at V13; exact V13
  have N13 := Fr.snoc X13 N8 g2
  obtain ⟨T15, h15, X15, e15, E15, A15, D15, -, st15⟩ := newO X13 hx hZ hown (hw _ (List.mem_of_getElem? (i := 1) rfl)) (hw _ (List.mem_of_getElem? (i := 2) rfl)) (hw _ (List.mem_of_getElem? (i := 3) rfl)) e13 (g := (mkF m 28 #[.val (.int j0), .val (.int j1), .val (.int j2), .val (.int j3), .val (.int j4), .val (.ref b1), .unset, .unset, .unset, .unset, .unset, .unset, .unset] [])) rfl (hb hby at_28) (by decide) (by decide)
  obtain ⟨b15, gg15⟩ : ∃ z, z = h13.size := ⟨_, rfl⟩
  rw [← gg15] at A15 D15 st15
  have ne16 : b1 ≠ b15 := Nat.ne_of_lt (Nat.lt_of_lt_of_le (Nat.lt_of_lt_of_le V1.lt (Nat.le_trans (Nat.le_of_eq (Wr.size W8).symm) (Nat.le_of_eq (Wr.size W13).symm))) (Nat.le_of_eq gg15.symm))
  have g17 : n0 ≤ b15 := Nat.le_trans (Nat.le_trans (own_le O0) K14.1) (Nat.le_of_eq gg15.symm)
  have b18 : h0.size ≤ b15 := Nat.le_trans K14.1 (Nat.le_of_eq gg15.symm)
  have K19 : Keep h0 h15 [] := K14.ext E15
  have hws : ∀ d ∈ StrChars.Road.words, d.before a0 Z = true := fun d hd => hw d (own_in_words d hd)
  have f20 : Arv Z h15 b1 k1 .char (2 : Int32) [(.int c0), (.int c1)] (.int (0 : Int32)) := (Vs13.ext E15)
  have hp21 : ∀ c ∈ ([c0, c1] : List Int32), ¬ c < 0 ∧ ¬ (255 : Int32) < c := own_allC hr_c0.1 (own_allC hr_c1.1 (own_all0))
  obtain ⟨_, _, ⟨T22, L22, k22, n22⟩, -, X22, ⟨Lc22, hQ22, l22, y22, z22⟩, st22⟩ := X15.specialBack hx (y := (⟨"java/lang/String", "<init>", "([C)V"⟩ : MethodName)) rfl hown (mvT hZ (hw _ (List.mem_of_getElem? (i := 4) rfl))) (mvT hZ (hw _ (List.mem_of_getElem? (i := 5) rfl))) (mvT hZ (hw _ (List.mem_of_getElem? (i := 6) rfl))) (by decide) (StrChars.Road.backV (W := 1) hZ hws (kI := 4) (hw _ (List.mem_of_getElem? (i := 2) rfl)) (cs := ([c0, c1] : List Int32)) (bs := ([c0, c1] : List Int32).map (fun c => c.toInt8.toInt32)) (n := 2) g17 (Nat.le_trans (own_le O0) K19.1) A15 (D15 (Or.inr (hw _ (List.mem_of_getElem? (i := 29) rfl))) (ty := (.array .byte)) (by decide)) (D15 (Or.inr (hw _ (List.mem_of_getElem? (i := 27) rfl))) (ty := .byte) (by decide)) f20 (hp4.ext (O0.keep K19 all0).2) hG1 rfl rfl (by decide) (by decide) hp21 rfl (by decide) (by decide)) (g := (mkF m 34 #[.val (.int j0), .val (.int j1), .val (.int j2), .val (.int j3), .val (.int j4), .val (.ref b1), .unset, .unset, .unset, .unset, .unset, .unset, .unset] [(.ref b1), (.ref b15), (.ref b15)])) rfl (by rw [hml]; rfl) (Steps.refl _) (a := b15) (argsL := [(.ref b1)]) (rest := [(.ref b15)]) (lenOf own_pd2 rfl) rfl (by show 2 * 0 + _ ≤ _; exact Nat.le_of_eq rfl) (hb hby at_34) (fun _ _ => ⟨rfl, e15, (by decide : 2 + 1 ≤ _), (by decide : 6 + 2 ≤ _)⟩)
  dsimp only [Pt.U, Pt.locs, Pt.cells, Pt.slots] at X22 l22 y22 z22 st22 hQ22
  subst l22 y22 z22
  obtain ⟨rfl, Nq22, Kq22, Ea22, Fc22, t22, kb22, gt22, sz22, nt22, Fv22, Av22⟩ := hQ22
  have N22 := Fr.app N13 Nq22
  have ne23 : b1 ≠ t22 := Nat.ne_of_lt (Nat.lt_of_lt_of_le (Nat.lt_of_lt_of_le V1.lt (Nat.le_trans (Nat.le_trans (Nat.le_of_eq (Wr.size W8).symm) (Nat.le_of_eq (Wr.size W13).symm)) E15.1)) sz22)
  have ne24 : b15 ≠ t22 := Nat.ne_of_lt (Nat.lt_of_lt_of_le A15.lt sz22)
  have g25 : n0 ≤ t22 := Nat.le_trans (Nat.le_trans (own_le O0) K19.1) sz22
  have b26 : h0.size ≤ t22 := Nat.le_trans K19.1 sz22
  have K27 : Keep h0 T22.heap [] := K19.trans Kq22 (allS (Or.inr b18) all0)
  have Sr22 : own_Str Z T22.heap b15 t22 kb22 ([c0, c1] : List Int32) := ⟨Ea22, Fv22, Fc22, Av22, hp21, (by show 2 ≤ 4000; decide)⟩
  obtain ⟨T28, h28, k28, X28, e28, E28, A28, st28⟩ := newP X22 hx hZ (hw _ (List.mem_of_getElem? (i := 0) rfl)) rfl (g := (mkF m 40 #[.val (.int j0), .val (.int j1), .val (.int j2), .val (.int j3), .val (.int j4), .val (.ref b1), .val (.ref b15), .unset, .unset, .unset, .unset, .unset, .unset] [(.int (3 : Int32))])) rfl (hb hby at_40) rfl (by decide) (cap := 3) (by decide) (by decide) (by decide) (by decide)
  obtain ⟨b28, gg28⟩ : ∃ z, z = T22.heap.size := ⟨_, rfl⟩
  rw [← gg28] at A28 st28
  have ne29 : b1 ≠ b28 := Nat.ne_of_lt (Nat.lt_of_lt_of_le (Nat.lt_of_lt_of_le V1.lt (Nat.le_trans (Nat.le_trans (Nat.le_trans (Nat.le_of_eq (Wr.size W8).symm) (Nat.le_of_eq (Wr.size W13).symm)) E15.1) Kq22.1)) (Nat.le_of_eq gg28.symm))
  have ne30 : b15 ≠ b28 := Nat.ne_of_lt (Nat.lt_of_lt_of_le (Nat.lt_of_lt_of_le A15.lt Kq22.1) (Nat.le_of_eq gg28.symm))
  have ne31 : t22 ≠ b28 := Nat.ne_of_lt (Nat.lt_of_lt_of_le Sr22.2.2.2.1.lt (Nat.le_of_eq gg28.symm))
  have g32 : n0 ≤ b28 := Nat.le_trans (Nat.le_trans (own_le O0) K27.1) (Nat.le_of_eq gg28.symm)
  have b33 : h0.size ≤ b28 := Nat.le_trans K27.1 (Nat.le_of_eq gg28.symm)
  have K34 : Keep h0 h28 [] := K27.ext E28
  have V28 : Arv Z h28 b28 k28 .char (3 : Int32) [(.int (0 : Int32)), (.int (0 : Int32)), (.int (0 : Int32))] (.int (0 : Int32)) := (Arv.new A28 (by decide)).pad (pad_rep [] (.int (0 : Int32)) 3)
  have r35 : GoTo p.tables e below s₁ (own_F_own_law m j0 j1 j2 j3 j4) T28 (mkF m 53 #[.val (.int j0), .val (.int j1), .val (.int j2), .val (.int j3), .val (.int j4), .val (.ref b1), .val (.ref b15), .val (.ref b28), .unset, .unset, .unset, .unset, .unset] [(.int ((j3 &&& (255 : Int32)).toUInt32.toUInt16.toUInt32.toInt32)), (.int (0 : Int32)), (.ref b28)]) := fun tt_ kk_ => r11 tt_ (by
      show Steps p.tables e below (T8.setTop (mkF m 27 #[.val (.int j0), .val (.int j1), .val (.int j2), .val (.int j3), .val (.int j4), .val (.ref b1), .unset, .unset, .unset, .unset, .unset, .unset, .unset] [(.int c1), (.int (1 : Int32)), (.ref b1)])) _
      refine st13 _ ?_
      show Steps p.tables e below (T13.setTop (mkF m 28 #[.val (.int j0), .val (.int j1), .val (.int j2), .val (.int j3), .val (.int j4), .val (.ref b1), .unset, .unset, .unset, .unset, .unset, .unset, .unset] [])) _
      refine st15 _ ?_
      show Steps p.tables e below (T15.setTop (mkF m 31 #[.val (.int j0), .val (.int j1), .val (.int j2), .val (.int j3), .val (.int j4), .val (.ref b1), .unset, .unset, .unset, .unset, .unset, .unset, .unset] [(.ref b15)])) _
      refine XS.dup X15.here hx rfl (hb hby at_31) rfl rfl ?_
      show Steps p.tables e below (T15.setTop (mkF m 32 #[.val (.int j0), .val (.int j1), .val (.int j2), .val (.int j3), .val (.int j4), .val (.ref b1), .unset, .unset, .unset, .unset, .unset, .unset, .unset] [(.ref b15), (.ref b15)])) _
      refine XS.aload X15.here hx rfl (hb hby at_32) rfl rfl ?_
      show Steps p.tables e below (T15.setTop (mkF m 34 #[.val (.int j0), .val (.int j1), .val (.int j2), .val (.int j3), .val (.int j4), .val (.ref b1), .unset, .unset, .unset, .unset, .unset, .unset, .unset] [(.ref b1), (.ref b15), (.ref b15)])) _
      refine st22.trans ?_
      show Steps p.tables e below (T22.setTop (mkF m 37 #[.val (.int j0), .val (.int j1), .val (.int j2), .val (.int j3), .val (.int j4), .val (.ref b1), .unset, .unset, .unset, .unset, .unset, .unset, .unset] [(.ref b15)])) _
      refine XS.astore X22.here hx rfl (hb hby at_37) rfl rfl (l' := #[.val (.int j0), .val (.int j1), .val (.int j2), .val (.int j3), .val (.int j4), .val (.ref b1), .val (.ref b15), .unset, .unset, .unset, .unset, .unset, .unset]) rfl ?_
      show Steps p.tables e below (T22.setTop (mkF m 39 #[.val (.int j0), .val (.int j1), .val (.int j2), .val (.int j3), .val (.int j4), .val (.ref b1), .val (.ref b15), .unset, .unset, .unset, .unset, .unset, .unset] [])) _
      refine XS.iconst X22.here hx rfl (hb hby at_39) ?_
      show Steps p.tables e below (T22.setTop (mkF m 40 #[.val (.int j0), .val (.int j1), .val (.int j2), .val (.int j3), .val (.int j4), .val (.ref b1), .val (.ref b15), .unset, .unset, .unset, .unset, .unset, .unset] [(.int (3 : Int32))])) _
      refine st28 _ ?_
      show Steps p.tables e below (T28.setTop (mkF m 42 #[.val (.int j0), .val (.int j1), .val (.int j2), .val (.int j3), .val (.int j4), .val (.ref b1), .val (.ref b15), .unset, .unset, .unset, .unset, .unset, .unset] [(.ref b28)])) _
      refine XS.astore X28.here hx rfl (hb hby at_42) rfl rfl (l' := #[.val (.int j0), .val (.int j1), .val (.int j2), .val (.int j3), .val (.int j4), .val (.ref b1), .val (.ref b15), .val (.ref b28), .unset, .unset, .unset, .unset, .unset]) rfl ?_
      show Steps p.tables e below (T28.setTop (mkF m 44 #[.val (.int j0), .val (.int j1), .val (.int j2), .val (.int j3), .val (.int j4), .val (.ref b1), .val (.ref b15), .val (.ref b28), .unset, .unset, .unset, .unset, .unset] [])) _
      refine XS.aload X28.here hx rfl (hb hby at_44) rfl rfl ?_
      show Steps p.tables e below (T28.setTop (mkF m 46 #[.val (.int j0), .val (.int j1), .val (.int j2), .val (.int j3), .val (.int j4), .val (.ref b1), .val (.ref b15), .val (.ref b28), .unset, .unset, .unset, .unset, .unset] [(.ref b28)])) _
      refine XS.iconst X28.here hx rfl (hb hby at_46) ?_
      show Steps p.tables e below (T28.setTop (mkF m 47 #[.val (.int j0), .val (.int j1), .val (.int j2), .val (.int j3), .val (.int j4), .val (.ref b1), .val (.ref b15), .val (.ref b28), .unset, .unset, .unset, .unset, .unset] [(.int (0 : Int32)), (.ref b28)])) _
      refine XS.iloadN X28.here hx rfl (hb hby at_47) rfl ?_
      show Steps p.tables e below (T28.setTop (mkF m 48 #[.val (.int j0), .val (.int j1), .val (.int j2), .val (.int j3), .val (.int j4), .val (.ref b1), .val (.ref b15), .val (.ref b28), .unset, .unset, .unset, .unset, .unset] [(.int j3), (.int (0 : Int32)), (.ref b28)])) _
      refine XS.sipush X28.here hx rfl (hb hby at_48) ?_
      show Steps p.tables e below (T28.setTop (mkF m 51 #[.val (.int j0), .val (.int j1), .val (.int j2), .val (.int j3), .val (.int j4), .val (.ref b1), .val (.ref b15), .val (.ref b28), .unset, .unset, .unset, .unset, .unset] [(.int (255 : Int32)), (.int j3), (.int (0 : Int32)), (.ref b28)])) _
      refine XS.iand X28.here hx rfl (hb hby at_51) rfl ?_
      show Steps p.tables e below (T28.setTop (mkF m 52 #[.val (.int j0), .val (.int j1), .val (.int j2), .val (.int j3), .val (.int j4), .val (.ref b1), .val (.ref b15), .val (.ref b28), .unset, .unset, .unset, .unset, .unset] [(.int (j3 &&& (255 : Int32))), (.int (0 : Int32)), (.ref b28)])) _
      refine XS.i2c X28.here hx rfl (hb hby at_52) rfl ?_
      show Steps p.tables e below (T28.setTop (mkF m 53 #[.val (.int j0), .val (.int j1), .val (.int j2), .val (.int j3), .val (.int j4), .val (.ref b1), .val (.ref b15), .val (.ref b28), .unset, .unset, .unset, .unset, .unset] [(.int ((j3 &&& (255 : Int32)).toUInt32.toUInt16.toUInt32.toInt32)), (.int (0 : Int32)), (.ref b28)])) _
      exact kk_)
  obtain ⟨d0, h_d0⟩ : ∃ z : Int32, z = ((j3 &&& (255 : Int32)).toUInt32.toUInt16.toUInt32.toInt32) := ⟨_, rfl⟩
  have r36 : GoTo p.tables e below s₁ (own_F_own_law m j0 j1 j2 j3 j4) T28 (mkF m 53 #[.val (.int j0), .val (.int j1), .val (.int j2), .val (.int j3), .val (.int j4), .val (.ref b1), .val (.ref b15), .val (.ref b28), .unset, .unset, .unset, .unset, .unset] [(.int d0), (.int (0 : Int32)), (.ref b28)]) := by rw [h_d0]; exact r35
  have hr_d0 := own_chr j3 h_d0
  obtain ⟨cl37, Ar37, q37, S37, NN37, H37, G37⟩ := id V28
  have hin37 : ¬ ((0 : Int32) < 0 ∨ cl37.slots.size ≤ ((0 : Int32)).toNatClampNeg) := inb_of S37 ⟨by decide, by decide⟩
  obtain ⟨T38, h38, X38, e38, W38, st38⟩ := stC X28 hx hZ e28 Ar37 (j := (0 : Int32)) hin37 (g := (mkF m 53 #[.val (.int j0), .val (.int j1), .val (.int j2), .val (.int j3), .val (.int j4), .val (.ref b1), .val (.ref b15), .val (.ref b28), .unset, .unset, .unset, .unset, .unset] [(.int d0), (.int (0 : Int32)), (.ref b28)])) rfl rfl (hb hby at_53)
  have K39 : Keep h0 h38 [] := K34.wr W38 (Or.inr b33)
  have V38 : Arv Z h38 b28 k28 .char (3 : Int32) [(.int (nar .char d0)), (.int (0 : Int32)), (.int (0 : Int32))] (.int (0 : Int32)) := Arv.set Ar37 q37 S37 NN37 H37 G37 (fits_nar_char _) W38 0 rfl (Nat.le_of_ble_eq_true rfl)
  have Vs38 : Arv Z h38 b28 k28 .char (3 : Int32) [(.int d0), (.int (0 : Int32)), (.int (0 : Int32))] (.int (0 : Int32)) := by rw [show (nar .char d0) = d0 from hr_d0.2] at V38; exact V38
  have N38 := Fr.snoc X38 N22 g32
  have r40 : GoTo p.tables e below s₁ (own_F_own_law m j0 j1 j2 j3 j4) T38 (mkF m 66 #[.val (.int j0), .val (.int j1), .val (.int j2), .val (.int j3), .val (.int j4), .val (.ref b1), .val (.ref b15), .val (.ref b28), .unset, .unset, .unset, .unset, .unset] [(.int ((((j3.toUInt32 >>> ((8 : Int32) &&& 31).toUInt32).toInt32) &&& (255 : Int32)).toUInt32.toUInt16.toUInt32.toInt32)), (.int (1 : Int32)), (.ref b28)]) := fun tt_ kk_ => r36 tt_ (by
      show Steps p.tables e below (T28.setTop (mkF m 53 #[.val (.int j0), .val (.int j1), .val (.int j2), .val (.int j3), .val (.int j4), .val (.ref b1), .val (.ref b15), .val (.ref b28), .unset, .unset, .unset, .unset, .unset] [(.int d0), (.int (0 : Int32)), (.ref b28)])) _
      refine st38 _ ?_
      show Steps p.tables e below (T38.setTop (mkF m 54 #[.val (.int j0), .val (.int j1), .val (.int j2), .val (.int j3), .val (.int j4), .val (.ref b1), .val (.ref b15), .val (.ref b28), .unset, .unset, .unset, .unset, .unset] [])) _
      refine XS.aload X38.here hx rfl (hb hby at_54) rfl rfl ?_
      show Steps p.tables e below (T38.setTop (mkF m 56 #[.val (.int j0), .val (.int j1), .val (.int j2), .val (.int j3), .val (.int j4), .val (.ref b1), .val (.ref b15), .val (.ref b28), .unset, .unset, .unset, .unset, .unset] [(.ref b28)])) _
      refine XS.iconst X38.here hx rfl (hb hby at_56) ?_
      show Steps p.tables e below (T38.setTop (mkF m 57 #[.val (.int j0), .val (.int j1), .val (.int j2), .val (.int j3), .val (.int j4), .val (.ref b1), .val (.ref b15), .val (.ref b28), .unset, .unset, .unset, .unset, .unset] [(.int (1 : Int32)), (.ref b28)])) _
      refine XS.iloadN X38.here hx rfl (hb hby at_57) rfl ?_
      show Steps p.tables e below (T38.setTop (mkF m 58 #[.val (.int j0), .val (.int j1), .val (.int j2), .val (.int j3), .val (.int j4), .val (.ref b1), .val (.ref b15), .val (.ref b28), .unset, .unset, .unset, .unset, .unset] [(.int j3), (.int (1 : Int32)), (.ref b28)])) _
      refine XS.bipush X38.here hx rfl (hb hby at_58) ?_
      show Steps p.tables e below (T38.setTop (mkF m 60 #[.val (.int j0), .val (.int j1), .val (.int j2), .val (.int j3), .val (.int j4), .val (.ref b1), .val (.ref b15), .val (.ref b28), .unset, .unset, .unset, .unset, .unset] [(.int (8 : Int32)), (.int j3), (.int (1 : Int32)), (.ref b28)])) _
      refine XS.iushr X38.here hx rfl (hb hby at_60) rfl ?_
      show Steps p.tables e below (T38.setTop (mkF m 61 #[.val (.int j0), .val (.int j1), .val (.int j2), .val (.int j3), .val (.int j4), .val (.ref b1), .val (.ref b15), .val (.ref b28), .unset, .unset, .unset, .unset, .unset] [(.int ((j3.toUInt32 >>> ((8 : Int32) &&& 31).toUInt32).toInt32)), (.int (1 : Int32)), (.ref b28)])) _
      refine XS.sipush X38.here hx rfl (hb hby at_61) ?_
      show Steps p.tables e below (T38.setTop (mkF m 64 #[.val (.int j0), .val (.int j1), .val (.int j2), .val (.int j3), .val (.int j4), .val (.ref b1), .val (.ref b15), .val (.ref b28), .unset, .unset, .unset, .unset, .unset] [(.int (255 : Int32)), (.int ((j3.toUInt32 >>> ((8 : Int32) &&& 31).toUInt32).toInt32)), (.int (1 : Int32)), (.ref b28)])) _
      refine XS.iand X38.here hx rfl (hb hby at_64) rfl ?_
      show Steps p.tables e below (T38.setTop (mkF m 65 #[.val (.int j0), .val (.int j1), .val (.int j2), .val (.int j3), .val (.int j4), .val (.ref b1), .val (.ref b15), .val (.ref b28), .unset, .unset, .unset, .unset, .unset] [(.int (((j3.toUInt32 >>> ((8 : Int32) &&& 31).toUInt32).toInt32) &&& (255 : Int32))), (.int (1 : Int32)), (.ref b28)])) _
      refine XS.i2c X38.here hx rfl (hb hby at_65) rfl ?_
      show Steps p.tables e below (T38.setTop (mkF m 66 #[.val (.int j0), .val (.int j1), .val (.int j2), .val (.int j3), .val (.int j4), .val (.ref b1), .val (.ref b15), .val (.ref b28), .unset, .unset, .unset, .unset, .unset] [(.int ((((j3.toUInt32 >>> ((8 : Int32) &&& 31).toUInt32).toInt32) &&& (255 : Int32)).toUInt32.toUInt16.toUInt32.toInt32)), (.int (1 : Int32)), (.ref b28)])) _
      exact kk_)
  obtain ⟨d1, h_d1⟩ : ∃ z : Int32, z = ((((j3.toUInt32 >>> ((8 : Int32) &&& 31).toUInt32).toInt32) &&& (255 : Int32)).toUInt32.toUInt16.toUInt32.toInt32) := ⟨_, rfl⟩
  have r41 : GoTo p.tables e below s₁ (own_F_own_law m j0 j1 j2 j3 j4) T38 (mkF m 66 #[.val (.int j0), .val (.int j1), .val (.int j2), .val (.int j3), .val (.int j4), .val (.ref b1), .val (.ref b15), .val (.ref b28), .unset, .unset, .unset, .unset, .unset] [(.int d1), (.int (1 : Int32)), (.ref b28)]) := by rw [h_d1]; exact r40
  have hr_d1 := own_chr ((j3.toUInt32 >>> ((8 : Int32) &&& 31).toUInt32).toInt32) h_d1
  obtain ⟨cl42, Ar42, q42, S42, NN42, H42, G42⟩ := id Vs38
  have hin42 : ¬ ((1 : Int32) < 0 ∨ cl42.slots.size ≤ ((1 : Int32)).toNatClampNeg) := inb_of S42 ⟨by decide, by decide⟩
  obtain ⟨T43, h43, X43, e43, W43, st43⟩ := stC X38 hx hZ e38 Ar42 (j := (1 : Int32)) hin42 (g := (mkF m 66 #[.val (.int j0), .val (.int j1), .val (.int j2), .val (.int j3), .val (.int j4), .val (.ref b1), .val (.ref b15), .val (.ref b28), .unset, .unset, .unset, .unset, .unset] [(.int d1), (.int (1 : Int32)), (.ref b28)])) rfl rfl (hb hby at_66)
  have K44 : Keep h0 h43 [] := K39.wr W43 (Or.inr b33)
  have V43 : Arv Z h43 b28 k28 .char (3 : Int32) [(.int d0), (.int (nar .char d1)), (.int (0 : Int32))] (.int (0 : Int32)) := Arv.set Ar42 q42 S42 NN42 H42 G42 (fits_nar_char _) W43 1 rfl (Nat.le_of_ble_eq_true rfl)
  have Vs43 : Arv Z h43 b28 k28 .char (3 : Int32) [(.int d0), (.int d1), (.int (0 : Int32))] (.int (0 : Int32)) := by rw [show (nar .char d1) = d1 from hr_d1.2] at V43; exact V43
  have N43 := Fr.snoc X43 N38 g32
  have r45 : GoTo p.tables e below s₁ (own_F_own_law m j0 j1 j2 j3 j4) T43 (mkF m 79 #[.val (.int j0), .val (.int j1), .val (.int j2), .val (.int j3), .val (.int j4), .val (.ref b1), .val (.ref b15), .val (.ref b28), .unset, .unset, .unset, .unset, .unset] [(.int ((((j3.toUInt32 >>> ((16 : Int32) &&& 31).toUInt32).toInt32) &&& (255 : Int32)).toUInt32.toUInt16.toUInt32.toInt32)), (.int (2 : Int32)), (.ref b28)]) := fun tt_ kk_ => r41 tt_ (by
      show Steps p.tables e below (T38.setTop (mkF m 66 #[.val (.int j0), .val (.int j1), .val (.int j2), .val (.int j3), .val (.int j4), .val (.ref b1), .val (.ref b15), .val (.ref b28), .unset, .unset, .unset, .unset, .unset] [(.int d1), (.int (1 : Int32)), (.ref b28)])) _
      refine st43 _ ?_
      show Steps p.tables e below (T43.setTop (mkF m 67 #[.val (.int j0), .val (.int j1), .val (.int j2), .val (.int j3), .val (.int j4), .val (.ref b1), .val (.ref b15), .val (.ref b28), .unset, .unset, .unset, .unset, .unset] [])) _
      refine XS.aload X43.here hx rfl (hb hby at_67) rfl rfl ?_
      show Steps p.tables e below (T43.setTop (mkF m 69 #[.val (.int j0), .val (.int j1), .val (.int j2), .val (.int j3), .val (.int j4), .val (.ref b1), .val (.ref b15), .val (.ref b28), .unset, .unset, .unset, .unset, .unset] [(.ref b28)])) _
      refine XS.iconst X43.here hx rfl (hb hby at_69) ?_
      show Steps p.tables e below (T43.setTop (mkF m 70 #[.val (.int j0), .val (.int j1), .val (.int j2), .val (.int j3), .val (.int j4), .val (.ref b1), .val (.ref b15), .val (.ref b28), .unset, .unset, .unset, .unset, .unset] [(.int (2 : Int32)), (.ref b28)])) _
      refine XS.iloadN X43.here hx rfl (hb hby at_70) rfl ?_
      show Steps p.tables e below (T43.setTop (mkF m 71 #[.val (.int j0), .val (.int j1), .val (.int j2), .val (.int j3), .val (.int j4), .val (.ref b1), .val (.ref b15), .val (.ref b28), .unset, .unset, .unset, .unset, .unset] [(.int j3), (.int (2 : Int32)), (.ref b28)])) _
      refine XS.bipush X43.here hx rfl (hb hby at_71) ?_
      show Steps p.tables e below (T43.setTop (mkF m 73 #[.val (.int j0), .val (.int j1), .val (.int j2), .val (.int j3), .val (.int j4), .val (.ref b1), .val (.ref b15), .val (.ref b28), .unset, .unset, .unset, .unset, .unset] [(.int (16 : Int32)), (.int j3), (.int (2 : Int32)), (.ref b28)])) _
      refine XS.iushr X43.here hx rfl (hb hby at_73) rfl ?_
      show Steps p.tables e below (T43.setTop (mkF m 74 #[.val (.int j0), .val (.int j1), .val (.int j2), .val (.int j3), .val (.int j4), .val (.ref b1), .val (.ref b15), .val (.ref b28), .unset, .unset, .unset, .unset, .unset] [(.int ((j3.toUInt32 >>> ((16 : Int32) &&& 31).toUInt32).toInt32)), (.int (2 : Int32)), (.ref b28)])) _
      refine XS.sipush X43.here hx rfl (hb hby at_74) ?_
      show Steps p.tables e below (T43.setTop (mkF m 77 #[.val (.int j0), .val (.int j1), .val (.int j2), .val (.int j3), .val (.int j4), .val (.ref b1), .val (.ref b15), .val (.ref b28), .unset, .unset, .unset, .unset, .unset] [(.int (255 : Int32)), (.int ((j3.toUInt32 >>> ((16 : Int32) &&& 31).toUInt32).toInt32)), (.int (2 : Int32)), (.ref b28)])) _
      refine XS.iand X43.here hx rfl (hb hby at_77) rfl ?_
      show Steps p.tables e below (T43.setTop (mkF m 78 #[.val (.int j0), .val (.int j1), .val (.int j2), .val (.int j3), .val (.int j4), .val (.ref b1), .val (.ref b15), .val (.ref b28), .unset, .unset, .unset, .unset, .unset] [(.int (((j3.toUInt32 >>> ((16 : Int32) &&& 31).toUInt32).toInt32) &&& (255 : Int32))), (.int (2 : Int32)), (.ref b28)])) _
      refine XS.i2c X43.here hx rfl (hb hby at_78) rfl ?_
      show Steps p.tables e below (T43.setTop (mkF m 79 #[.val (.int j0), .val (.int j1), .val (.int j2), .val (.int j3), .val (.int j4), .val (.ref b1), .val (.ref b15), .val (.ref b28), .unset, .unset, .unset, .unset, .unset] [(.int ((((j3.toUInt32 >>> ((16 : Int32) &&& 31).toUInt32).toInt32) &&& (255 : Int32)).toUInt32.toUInt16.toUInt32.toInt32)), (.int (2 : Int32)), (.ref b28)])) _
      exact kk_)
  obtain ⟨d2, h_d2⟩ : ∃ z : Int32, z = ((((j3.toUInt32 >>> ((16 : Int32) &&& 31).toUInt32).toInt32) &&& (255 : Int32)).toUInt32.toUInt16.toUInt32.toInt32) := ⟨_, rfl⟩
  have r46 : GoTo p.tables e below s₁ (own_F_own_law m j0 j1 j2 j3 j4) T43 (mkF m 79 #[.val (.int j0), .val (.int j1), .val (.int j2), .val (.int j3), .val (.int j4), .val (.ref b1), .val (.ref b15), .val (.ref b28), .unset, .unset, .unset, .unset, .unset] [(.int d2), (.int (2 : Int32)), (.ref b28)]) := by rw [h_d2]; exact r45
  have hr_d2 := own_chr ((j3.toUInt32 >>> ((16 : Int32) &&& 31).toUInt32).toInt32) h_d2
  obtain ⟨cl47, Ar47, q47, S47, NN47, H47, G47⟩ := id Vs43
  have hin47 : ¬ ((2 : Int32) < 0 ∨ cl47.slots.size ≤ ((2 : Int32)).toNatClampNeg) := inb_of S47 ⟨by decide, by decide⟩
  obtain ⟨T48, h48, X48, e48, W48, st48⟩ := stC X43 hx hZ e43 Ar47 (j := (2 : Int32)) hin47 (g := (mkF m 79 #[.val (.int j0), .val (.int j1), .val (.int j2), .val (.int j3), .val (.int j4), .val (.ref b1), .val (.ref b15), .val (.ref b28), .unset, .unset, .unset, .unset, .unset] [(.int d2), (.int (2 : Int32)), (.ref b28)])) rfl rfl (hb hby at_79)
  have K49 : Keep h0 h48 [] := K44.wr W48 (Or.inr b33)
  have V48 : Arv Z h48 b28 k28 .char (3 : Int32) [(.int d0), (.int d1), (.int (nar .char d2))] (.int (0 : Int32)) := Arv.set Ar47 q47 S47 NN47 H47 G47 (fits_nar_char _) W48 2 rfl (Nat.le_of_ble_eq_true rfl)
  have Vs48 : Arv Z h48 b28 k28 .char (3 : Int32) [(.int d0), (.int d1), (.int d2)] (.int (0 : Int32)) := by rw [show (nar .char d2) = d2 from hr_d2.2] at V48; exact V48
  have N48 := Fr.snoc X48 N43 g32
  obtain ⟨T50, h50, X50, e50, E50, A50, D50, -, st50⟩ := newO X48 hx hZ hown (hw _ (List.mem_of_getElem? (i := 1) rfl)) (hw _ (List.mem_of_getElem? (i := 2) rfl)) (hw _ (List.mem_of_getElem? (i := 3) rfl)) e48 (g := (mkF m 80 #[.val (.int j0), .val (.int j1), .val (.int j2), .val (.int j3), .val (.int j4), .val (.ref b1), .val (.ref b15), .val (.ref b28), .unset, .unset, .unset, .unset, .unset] [])) rfl (hb hby at_80) (by decide) (by decide)
  obtain ⟨b50, gg50⟩ : ∃ z, z = h48.size := ⟨_, rfl⟩
  rw [← gg50] at A50 D50 st50
  have ne51 : b1 ≠ b50 := Nat.ne_of_lt (Nat.lt_of_lt_of_le (Nat.lt_of_lt_of_le V1.lt (Nat.le_trans (Nat.le_trans (Nat.le_trans (Nat.le_trans (Nat.le_trans (Nat.le_trans (Nat.le_trans (Nat.le_of_eq (Wr.size W8).symm) (Nat.le_of_eq (Wr.size W13).symm)) E15.1) Kq22.1) E28.1) (Nat.le_of_eq (Wr.size W38).symm)) (Nat.le_of_eq (Wr.size W43).symm)) (Nat.le_of_eq (Wr.size W48).symm))) (Nat.le_of_eq gg50.symm))
  have ne52 : b15 ≠ b50 := Nat.ne_of_lt (Nat.lt_of_lt_of_le (Nat.lt_of_lt_of_le A15.lt (Nat.le_trans (Nat.le_trans (Nat.le_trans (Nat.le_trans Kq22.1 E28.1) (Nat.le_of_eq (Wr.size W38).symm)) (Nat.le_of_eq (Wr.size W43).symm)) (Nat.le_of_eq (Wr.size W48).symm))) (Nat.le_of_eq gg50.symm))
  have ne53 : t22 ≠ b50 := Nat.ne_of_lt (Nat.lt_of_lt_of_le (Nat.lt_of_lt_of_le Sr22.2.2.2.1.lt (Nat.le_trans (Nat.le_trans (Nat.le_trans E28.1 (Nat.le_of_eq (Wr.size W38).symm)) (Nat.le_of_eq (Wr.size W43).symm)) (Nat.le_of_eq (Wr.size W48).symm))) (Nat.le_of_eq gg50.symm))
  have ne54 : b28 ≠ b50 := Nat.ne_of_lt (Nat.lt_of_lt_of_le (Nat.lt_of_lt_of_le V28.lt (Nat.le_trans (Nat.le_trans (Nat.le_of_eq (Wr.size W38).symm) (Nat.le_of_eq (Wr.size W43).symm)) (Nat.le_of_eq (Wr.size W48).symm))) (Nat.le_of_eq gg50.symm))
  have g55 : n0 ≤ b50 := Nat.le_trans (Nat.le_trans (own_le O0) K49.1) (Nat.le_of_eq gg50.symm)
  have b56 : h0.size ≤ b50 := Nat.le_trans K49.1 (Nat.le_of_eq gg50.symm)
  have K57 : Keep h0 h50 [] := K49.ext E50
  have f58 : Arv Z h50 b28 k28 .char (3 : Int32) [(.int d0), (.int d1), (.int d2)] (.int (0 : Int32)) := (Vs48.ext E50)
  have hp59 : ∀ c ∈ ([d0, d1, d2] : List Int32), ¬ c < 0 ∧ ¬ (255 : Int32) < c := own_allC hr_d0.1 (own_allC hr_d1.1 (own_allC hr_d2.1 (own_all0)))
  obtain ⟨_, _, ⟨T60, L60, k60, n60⟩, -, X60, ⟨Lc60, hQ60, l60, y60, z60⟩, st60⟩ := X50.specialBack hx (y := (⟨"java/lang/String", "<init>", "([C)V"⟩ : MethodName)) rfl hown (mvT hZ (hw _ (List.mem_of_getElem? (i := 4) rfl))) (mvT hZ (hw _ (List.mem_of_getElem? (i := 5) rfl))) (mvT hZ (hw _ (List.mem_of_getElem? (i := 6) rfl))) (by decide) (StrChars.Road.backV (W := 1) hZ hws (kI := 4) (hw _ (List.mem_of_getElem? (i := 2) rfl)) (cs := ([d0, d1, d2] : List Int32)) (bs := ([d0, d1, d2] : List Int32).map (fun c => c.toInt8.toInt32)) (n := 3) g55 (Nat.le_trans (own_le O0) K57.1) A50 (D50 (Or.inr (hw _ (List.mem_of_getElem? (i := 29) rfl))) (ty := (.array .byte)) (by decide)) (D50 (Or.inr (hw _ (List.mem_of_getElem? (i := 27) rfl))) (ty := .byte) (by decide)) f58 (hp4.ext (O0.keep K57 all0).2) hG1 rfl rfl (by decide) (by decide) hp59 rfl (by decide) (by decide)) (g := (mkF m 86 #[.val (.int j0), .val (.int j1), .val (.int j2), .val (.int j3), .val (.int j4), .val (.ref b1), .val (.ref b15), .val (.ref b28), .unset, .unset, .unset, .unset, .unset] [(.ref b28), (.ref b50), (.ref b50)])) rfl (by rw [hml]; rfl) (Steps.refl _) (a := b50) (argsL := [(.ref b28)]) (rest := [(.ref b50)]) (lenOf own_pd2 rfl) rfl (by show 2 * 0 + _ ≤ _; exact Nat.le_of_eq rfl) (hb hby at_86) (fun _ _ => ⟨rfl, e50, (by decide : 5 + 1 ≤ _), (by decide : 15 + 3 ≤ _)⟩)
  dsimp only [Pt.U, Pt.locs, Pt.cells, Pt.slots] at X60 l60 y60 z60 st60 hQ60
  subst l60 y60 z60
  obtain ⟨rfl, Nq60, Kq60, Ea60, Fc60, t60, kb60, gt60, sz60, nt60, Fv60, Av60⟩ := hQ60
  have N60 := Fr.app N48 Nq60
  have ne61 : b1 ≠ t60 := Nat.ne_of_lt (Nat.lt_of_lt_of_le (Nat.lt_of_lt_of_le V1.lt (Nat.le_trans (Nat.le_trans (Nat.le_trans (Nat.le_trans (Nat.le_trans (Nat.le_trans (Nat.le_trans (Nat.le_trans (Nat.le_of_eq (Wr.size W8).symm) (Nat.le_of_eq (Wr.size W13).symm)) E15.1) Kq22.1) E28.1) (Nat.le_of_eq (Wr.size W38).symm)) (Nat.le_of_eq (Wr.size W43).symm)) (Nat.le_of_eq (Wr.size W48).symm)) E50.1)) sz60)
  have ne62 : b15 ≠ t60 := Nat.ne_of_lt (Nat.lt_of_lt_of_le (Nat.lt_of_lt_of_le A15.lt (Nat.le_trans (Nat.le_trans (Nat.le_trans (Nat.le_trans (Nat.le_trans Kq22.1 E28.1) (Nat.le_of_eq (Wr.size W38).symm)) (Nat.le_of_eq (Wr.size W43).symm)) (Nat.le_of_eq (Wr.size W48).symm)) E50.1)) sz60)
  have ne63 : t22 ≠ t60 := Nat.ne_of_lt (Nat.lt_of_lt_of_le (Nat.lt_of_lt_of_le Sr22.2.2.2.1.lt (Nat.le_trans (Nat.le_trans (Nat.le_trans (Nat.le_trans E28.1 (Nat.le_of_eq (Wr.size W38).symm)) (Nat.le_of_eq (Wr.size W43).symm)) (Nat.le_of_eq (Wr.size W48).symm)) E50.1)) sz60)
  have ne64 : b28 ≠ t60 := Nat.ne_of_lt (Nat.lt_of_lt_of_le (Nat.lt_of_lt_of_le V28.lt (Nat.le_trans (Nat.le_trans (Nat.le_trans (Nat.le_of_eq (Wr.size W38).symm) (Nat.le_of_eq (Wr.size W43).symm)) (Nat.le_of_eq (Wr.size W48).symm)) E50.1)) sz60)
  have ne65 : b50 ≠ t60 := Nat.ne_of_lt (Nat.lt_of_lt_of_le A50.lt sz60)
  have g66 : n0 ≤ t60 := Nat.le_trans (Nat.le_trans (own_le O0) K57.1) sz60
  have b67 : h0.size ≤ t60 := Nat.le_trans K57.1 sz60
  have K68 : Keep h0 T60.heap [] := K57.trans Kq60 (allS (Or.inr b56) all0)
  have Sr60 : own_Str Z T60.heap b50 t60 kb60 ([d0, d1, d2] : List Int32) := ⟨Ea60, Fv60, Fc60, Av60, hp59, (by show 3 ≤ 4000; decide)⟩
  obtain ⟨_, _, ⟨T69, L69, k69, n69⟩, -, X69, ⟨Lc69, hQ69, l69, y69, z69⟩, st69⟩ := Jvm.LawKit.callS X60 hx (y := (⟨"com/example/anteroom/anteroom/rules/PlaceFindingPinLaw", "pick", "(I)Lcom/example/anteroom/anteroom/rules/Rule;"⟩ : MethodName)) hown (mvT hZ (hw _ (List.mem_of_getElem? (i := 30) rfl))) (mvT hZ (hw _ (List.mem_of_getElem? (i := 31) rfl))) (mvT hZ (hw _ (List.mem_of_getElem? (i := 32) rfl))) (mvT hZ (hw _ (List.mem_of_getElem? (i := 33) rfl))) (by decide) (backOf (W := 0) (own_pick l Z a0 hw [] (j4) (u0) (u1) (u2) (u3) T60.heap n0 (O0.keep K68 all0) (hp0) (hp1) (hp2) (hp3)) hZ (hw _ (List.mem_of_getElem? (i := 33) rfl)) (hw _ (List.mem_of_getElem? (i := 32) rfl)) (by decide) (by decide)) (g := (mkF m 93 #[.val (.int j0), .val (.int j1), .val (.int j2), .val (.int j3), .val (.int j4), .val (.ref b1), .val (.ref b15), .val (.ref b28), .val (.ref b50), .unset, .unset, .unset, .unset] [(.int j4)])) rfl (by rw [hml]; rfl) (argsL := [(.int j4)]) (rest := []) (lenOf own_pd3 rfl) rfl (by show 2 * 0 + _ ≤ _; exact Nat.le_of_eq rfl) (hb hby at_93) (fun _ _ => ⟨rfl, rfl, (by decide : 6 + 0 ≤ _), (by decide : 18 + 0 ≤ _)⟩)
  dsimp only [Pt.U, Pt.locs, Pt.cells, Pt.slots] at X69 l69 y69 z69 st69 hQ69
  subst l69 y69 z69
  obtain ⟨kd_69, rfl, Nq69, hh69⟩ := hQ69
  have N69 := Fr.app N60 Nq69
  obtain ⟨T70, h70, X70, e70, E70, A70, D70, -, st70⟩ := newO X69 hx hZ hown (hw _ (List.mem_of_getElem? (i := 37) rfl)) (hw _ (List.mem_of_getElem? (i := 38) rfl)) (hw _ (List.mem_of_getElem? (i := 39) rfl)) hh69 (g := (mkF m 98 #[.val (.int j0), .val (.int j1), .val (.int j2), .val (.int j3), .val (.int j4), .val (.ref b1), .val (.ref b15), .val (.ref b28), .val (.ref b50), .val (.ref kd_69), .unset, .unset, .unset] [])) rfl (hb hby at_98) (by decide) (by decide)
  obtain ⟨b70, gg70⟩ : ∃ z, z = T60.heap.size := ⟨_, rfl⟩
  rw [← gg70] at A70 D70 st70
  have ne71 : b1 ≠ b70 := Nat.ne_of_lt (Nat.lt_of_lt_of_le (Nat.lt_of_lt_of_le V1.lt (Nat.le_trans (Nat.le_trans (Nat.le_trans (Nat.le_trans (Nat.le_trans (Nat.le_trans (Nat.le_trans (Nat.le_trans (Nat.le_trans (Nat.le_of_eq (Wr.size W8).symm) (Nat.le_of_eq (Wr.size W13).symm)) E15.1) Kq22.1) E28.1) (Nat.le_of_eq (Wr.size W38).symm)) (Nat.le_of_eq (Wr.size W43).symm)) (Nat.le_of_eq (Wr.size W48).symm)) E50.1) Kq60.1)) (Nat.le_of_eq gg70.symm))
  have ne72 : b15 ≠ b70 := Nat.ne_of_lt (Nat.lt_of_lt_of_le (Nat.lt_of_lt_of_le A15.lt (Nat.le_trans (Nat.le_trans (Nat.le_trans (Nat.le_trans (Nat.le_trans (Nat.le_trans Kq22.1 E28.1) (Nat.le_of_eq (Wr.size W38).symm)) (Nat.le_of_eq (Wr.size W43).symm)) (Nat.le_of_eq (Wr.size W48).symm)) E50.1) Kq60.1)) (Nat.le_of_eq gg70.symm))
  have ne73 : t22 ≠ b70 := Nat.ne_of_lt (Nat.lt_of_lt_of_le (Nat.lt_of_lt_of_le Sr22.2.2.2.1.lt (Nat.le_trans (Nat.le_trans (Nat.le_trans (Nat.le_trans (Nat.le_trans E28.1 (Nat.le_of_eq (Wr.size W38).symm)) (Nat.le_of_eq (Wr.size W43).symm)) (Nat.le_of_eq (Wr.size W48).symm)) E50.1) Kq60.1)) (Nat.le_of_eq gg70.symm))
  have ne74 : b28 ≠ b70 := Nat.ne_of_lt (Nat.lt_of_lt_of_le (Nat.lt_of_lt_of_le V28.lt (Nat.le_trans (Nat.le_trans (Nat.le_trans (Nat.le_trans (Nat.le_of_eq (Wr.size W38).symm) (Nat.le_of_eq (Wr.size W43).symm)) (Nat.le_of_eq (Wr.size W48).symm)) E50.1) Kq60.1)) (Nat.le_of_eq gg70.symm))
  have ne75 : b50 ≠ b70 := Nat.ne_of_lt (Nat.lt_of_lt_of_le (Nat.lt_of_lt_of_le A50.lt Kq60.1) (Nat.le_of_eq gg70.symm))
  have ne76 : t60 ≠ b70 := Nat.ne_of_lt (Nat.lt_of_lt_of_le Sr60.2.2.2.1.lt (Nat.le_of_eq gg70.symm))
  have g77 : n0 ≤ b70 := Nat.le_trans (Nat.le_trans (own_le O0) K68.1) (Nat.le_of_eq gg70.symm)
  have b78 : h0.size ≤ b70 := Nat.le_trans K68.1 (Nat.le_of_eq gg70.symm)
  have K79 : Keep h0 h70 [] := K68.ext E70
  obtain ⟨_, _, ⟨T80, L80, k80, n80⟩, -, X80, ⟨Lc80, hQ80, l80, y80, z80⟩, st80⟩ := X70.specialBack hx (y := (⟨"com/example/anteroom/anteroom/rules/Place", "<init>", "(Ljava/lang/String;II)V"⟩ : MethodName)) rfl hown (mvT hZ (hw _ (List.mem_of_getElem? (i := 40) rfl))) (mvT hZ (hw _ (List.mem_of_getElem? (i := 41) rfl))) (mvT hZ (hw _ (List.mem_of_getElem? (i := 42) rfl))) (by decide) (backOf (W := 1) (own_pinit l Z a0 hw [] (b70) (b15) (j0) (j1) h70 n0 (O0.keep K79 all0) (A70) (g77) ((D70 (Or.inr (hw _ (List.mem_of_getElem? (i := 50) rfl))) (ty := (.object "java/lang/String")) (by decide))) ((D70 (Or.inr (hw _ (List.mem_of_getElem? (i := 52) rfl))) (ty := .int) (by decide))) ((D70 (Or.inr (hw _ (List.mem_of_getElem? (i := 54) rfl))) (ty := .int) (by decide)))) hZ (hw _ (List.mem_of_getElem? (i := 42) rfl)) (hw _ (List.mem_of_getElem? (i := 39) rfl)) (by decide) (by decide)) (g := (mkF m 106 #[.val (.int j0), .val (.int j1), .val (.int j2), .val (.int j3), .val (.int j4), .val (.ref b1), .val (.ref b15), .val (.ref b28), .val (.ref b50), .val (.ref kd_69), .unset, .unset, .unset] [(.int j1), (.int j0), (.ref b15), (.ref b70), (.ref b70)])) rfl (by rw [hml]; rfl) (Steps.refl _) (a := b70) (argsL := [(.ref b15), (.int j0), (.int j1)]) (rest := [(.ref b70)]) (lenOf own_pd4 rfl) rfl (by show 2 * 0 + _ ≤ _; exact Nat.le_of_eq rfl) (hb hby at_106) (fun _ _ => ⟨rfl, e70, (by decide : 7 + 0 ≤ _), (by decide : 21 + 0 ≤ _)⟩)
  dsimp only [Pt.U, Pt.locs, Pt.cells, Pt.slots] at X80 l80 y80 z80 st80 hQ80
  subst l80 y80 z80
  obtain ⟨rfl, Nq80, Kq80, po80_0, po80_1, po80_2, po80_3⟩ := hQ80
  have N80 := Fr.app N69 Nq80
  have K81 : Keep h0 T80.heap [] := K79.trans Kq80 (allS (Or.inr b78) all0)
  obtain ⟨cq82, kq82, qa82, qb82, qc82⟩ := isOf hZ rfl po80_0
  obtain ⟨_, _, ⟨T82, L82, k82, n82⟩, -, X82, ⟨Lc82, hQ82, l82, y82, z82⟩, st82⟩ := X80.virtualBack hx (y := (⟨"com/example/anteroom/anteroom/rules/Place", "finding", "(Lcom/example/anteroom/anteroom/rules/Rule;Ljava/lang/String;)Lcom/example/anteroom/anteroom/rules/Finding;"⟩ : MethodName)) (z := (⟨"com/example/anteroom/anteroom/rules/Place", "finding", "(Lcom/example/anteroom/anteroom/rules/Rule;Ljava/lang/String;)Lcom/example/anteroom/anteroom/rules/Finding;"⟩ : MethodName)) hown (mvT hZ (hw _ (List.mem_of_getElem? (i := 55) rfl))) (mvT hZ (hw _ (List.mem_of_getElem? (i := 56) rfl))) (notFace_of_selects (args := #[]) (mvT hZ (hw _ (List.mem_of_getElem? (i := 58) rfl)))) (mvT hZ (hw _ (List.mem_of_getElem? (i := 58) rfl))) (mvT hZ (hw _ (List.mem_of_getElem? (i := 57) rfl))) (by decide) (backOf (W := 0) (own_finding l Z a0 hw [] (b70) (kd_69) (b50) (b15) (j0) (j1) T80.heap n0 (O0.keep K81 all0) (po80_1) (po80_2) (po80_3)) hZ (hw _ (List.mem_of_getElem? (i := 59) rfl)) (hw _ (List.mem_of_getElem? (i := 39) rfl)) (by decide) (by decide)) qa82 qc82 (g := (mkF m 117 #[.val (.int j0), .val (.int j1), .val (.int j2), .val (.int j3), .val (.int j4), .val (.ref b1), .val (.ref b15), .val (.ref b28), .val (.ref b50), .val (.ref kd_69), .val (.ref b70), .unset, .unset] [(.ref b50), (.ref kd_69), (.ref b70)])) rfl (by rw [hml]; rfl) (Steps.refl _) (argsL := [(.ref kd_69), (.ref b50)]) (rest := []) (lenOf own_pd5 rfl) rfl (by show 2 * 0 + _ ≤ _; exact Nat.le_of_eq rfl) (hb hby at_117) (fun _ _ => ⟨rfl, rfl, (by decide : 7 + 1 ≤ _), (by decide : 21 + 5 ≤ _)⟩)
  dsimp only [Pt.U, Pt.locs, Pt.cells, Pt.slots] at X82 l82 y82 z82 st82 hQ82
  subst l82 y82 z82
  obtain ⟨b_82, rfl, Nq82, Kq82, po82_0, po82_1, po82_2, po82_3, po82_4, po82_5, po82_6, po82_7⟩ := hQ82
  have N82 := Fr.app N80 Nq82
  have ne83 : b1 ≠ b_82 := Nat.ne_of_lt (Nat.lt_of_lt_of_le (Nat.lt_of_lt_of_le V1.lt (Nat.le_trans (Nat.le_trans (Nat.le_trans (Nat.le_trans (Nat.le_trans (Nat.le_trans (Nat.le_trans (Nat.le_trans (Nat.le_trans (Nat.le_trans (Nat.le_trans (Nat.le_of_eq (Wr.size W8).symm) (Nat.le_of_eq (Wr.size W13).symm)) E15.1) Kq22.1) E28.1) (Nat.le_of_eq (Wr.size W38).symm)) (Nat.le_of_eq (Wr.size W43).symm)) (Nat.le_of_eq (Wr.size W48).symm)) E50.1) Kq60.1) E70.1) Kq80.1)) po82_0)
  have ne84 : b15 ≠ b_82 := Nat.ne_of_lt (Nat.lt_of_lt_of_le (Nat.lt_of_lt_of_le A15.lt (Nat.le_trans (Nat.le_trans (Nat.le_trans (Nat.le_trans (Nat.le_trans (Nat.le_trans (Nat.le_trans (Nat.le_trans Kq22.1 E28.1) (Nat.le_of_eq (Wr.size W38).symm)) (Nat.le_of_eq (Wr.size W43).symm)) (Nat.le_of_eq (Wr.size W48).symm)) E50.1) Kq60.1) E70.1) Kq80.1)) po82_0)
  have ne85 : t22 ≠ b_82 := Nat.ne_of_lt (Nat.lt_of_lt_of_le (Nat.lt_of_lt_of_le Sr22.2.2.2.1.lt (Nat.le_trans (Nat.le_trans (Nat.le_trans (Nat.le_trans (Nat.le_trans (Nat.le_trans (Nat.le_trans E28.1 (Nat.le_of_eq (Wr.size W38).symm)) (Nat.le_of_eq (Wr.size W43).symm)) (Nat.le_of_eq (Wr.size W48).symm)) E50.1) Kq60.1) E70.1) Kq80.1)) po82_0)
  have ne86 : b28 ≠ b_82 := Nat.ne_of_lt (Nat.lt_of_lt_of_le (Nat.lt_of_lt_of_le V28.lt (Nat.le_trans (Nat.le_trans (Nat.le_trans (Nat.le_trans (Nat.le_trans (Nat.le_trans (Nat.le_of_eq (Wr.size W38).symm) (Nat.le_of_eq (Wr.size W43).symm)) (Nat.le_of_eq (Wr.size W48).symm)) E50.1) Kq60.1) E70.1) Kq80.1)) po82_0)
  have ne87 : b50 ≠ b_82 := Nat.ne_of_lt (Nat.lt_of_lt_of_le (Nat.lt_of_lt_of_le A50.lt (Nat.le_trans (Nat.le_trans Kq60.1 E70.1) Kq80.1)) po82_0)
  have ne88 : t60 ≠ b_82 := Nat.ne_of_lt (Nat.lt_of_lt_of_le (Nat.lt_of_lt_of_le Sr60.2.2.2.1.lt (Nat.le_trans E70.1 Kq80.1)) po82_0)
  have ne89 : b70 ≠ b_82 := Nat.ne_of_lt (Nat.lt_of_lt_of_le (Nat.lt_of_lt_of_le A70.lt Kq80.1) po82_0)
  have g90 : n0 ≤ b_82 := Nat.le_trans (Nat.le_trans (own_le O0) K81.1) po82_0
  have b91 : h0.size ≤ b_82 := Nat.le_trans K81.1 po82_0
  have K92 : Keep h0 T82.heap [] := K81.trans Kq82 all0
  obtain ⟨cq93, kq93, qa93, qb93, qc93⟩ := isOf hZ rfl po82_2
  obtain ⟨_, _, ⟨T93, L93, k93, n93⟩, -, X93, ⟨Lc93, hQ93, l93, y93, z93⟩, st93⟩ := X82.virtualBack hx (y := (⟨"com/example/anteroom/anteroom/rules/Finding", "path", "()Ljava/lang/String;"⟩ : MethodName)) (z := (⟨"com/example/anteroom/anteroom/rules/Finding", "path", "()Ljava/lang/String;"⟩ : MethodName)) hown (mvT hZ (hw _ (List.mem_of_getElem? (i := 77) rfl))) (mvT hZ (hw _ (List.mem_of_getElem? (i := 78) rfl))) (notFace_of_selects (args := #[]) (mvT hZ (hw _ (List.mem_of_getElem? (i := 80) rfl)))) (mvT hZ (hw _ (List.mem_of_getElem? (i := 80) rfl))) (mvT hZ (hw _ (List.mem_of_getElem? (i := 79) rfl))) (by decide) (backOf (W := 1) (own_gpath l Z a0 hw [] (b_82) (b15) T82.heap n0 (O0.keep K92 all0) (po82_3)) hZ (hw _ (List.mem_of_getElem? (i := 81) rfl)) (hw _ (List.mem_of_getElem? (i := 62) rfl)) (by decide) (by decide)) qa93 qc93 (g := (mkF m 133 #[.val (.int j0), .val (.int j1), .val (.int j2), .val (.int j3), .val (.int j4), .val (.ref b1), .val (.ref b15), .val (.ref b28), .val (.ref b50), .val (.ref kd_69), .val (.ref b70), .val (.ref b_82), .unset] [(.ref b_82), (.ref b15)])) rfl (by rw [hml]; rfl) (Steps.refl _) (argsL := []) (rest := [(.ref b15)]) (lenOf own_pd6 rfl) rfl (by show 2 * 0 + _ ≤ _; exact Nat.le_of_eq rfl) (hb hby at_133) (fun _ _ => ⟨rfl, rfl, (by decide : 8 + 0 ≤ _), (by decide : 26 + 0 ≤ _)⟩)
  dsimp only [Pt.U, Pt.locs, Pt.cells, Pt.slots] at X93 l93 y93 z93 st93 hQ93
  subst l93 y93 z93
  obtain ⟨rfl, Nq93, hh93⟩ := hQ93
  have N93 := Fr.app N82 Nq93
  have f95 : Exa Z T82.heap b15 "java/lang/String" := (((((((((Sr22.1.ext E28).wr W38).wr W43).wr W48).ext E50).keep Kq60).ext E70).keep Kq80).keep Kq82)
  obtain ⟨cq94, kq94, qa94, qb94, qc94⟩ := isOf hZ hh93 f95
  obtain ⟨_, _, ⟨T94, L94, k94, n94⟩, -, X94, ⟨Lc94, hQ94, l94, y94, z94⟩, st94⟩ := X93.virtualBack hx (y := (⟨"java/lang/String", "equals", "(Ljava/lang/Object;)Z"⟩ : MethodName)) (z := (⟨"java/lang/String", "equals", "(Ljava/lang/Object;)Z"⟩ : MethodName)) hown (mvT hZ (hw _ (List.mem_of_getElem? (i := 82) rfl))) (mvT hZ (hw _ (List.mem_of_getElem? (i := 83) rfl))) (notFace_of_selects (args := #[]) (mvT hZ (hw _ (List.mem_of_getElem? (i := 85) rfl)))) (mvT hZ (hw _ (List.mem_of_getElem? (i := 85) rfl))) (mvT hZ (hw _ (List.mem_of_getElem? (i := 84) rfl))) (by decide) (backOf (W := 0) (own_eqself l Z a0 hw [] (b15) T82.heap n0 (O0.keep K92 all0)) hZ (hw _ (List.mem_of_getElem? (i := 86) rfl)) (hw _ (List.mem_of_getElem? (i := 3) rfl)) (by decide) (by decide)) qa94 qc94 (g := (mkF m 136 #[.val (.int j0), .val (.int j1), .val (.int j2), .val (.int j3), .val (.int j4), .val (.ref b1), .val (.ref b15), .val (.ref b28), .val (.ref b50), .val (.ref kd_69), .val (.ref b70), .val (.ref b_82), .unset] [(.ref b15), (.ref b15)])) rfl (by rw [hml]; rfl) (Steps.refl _) (argsL := [(.ref b15)]) (rest := []) (lenOf own_pd7 rfl) rfl (by show 2 * 0 + _ ≤ _; exact Nat.le_of_eq rfl) (hb hby at_136) (fun _ _ => ⟨rfl, hh93, (by decide : 8 + 0 ≤ _), (by decide : 26 + 0 ≤ _)⟩)
  dsimp only [Pt.U, Pt.locs, Pt.cells, Pt.slots] at X94 l94 y94 z94 st94 hQ94
  subst l94 y94 z94
  obtain ⟨rfl, Nq94, hh94⟩ := hQ94
  have N94 := Fr.app N93 Nq94
  obtain ⟨cq96, kq96, qa96, qb96, qc96⟩ := isOf hZ hh94 po82_2
  obtain ⟨_, _, ⟨T96, L96, k96, n96⟩, -, X96, ⟨Lc96, hQ96, l96, y96, z96⟩, st96⟩ := X94.virtualBack hx (y := (⟨"com/example/anteroom/anteroom/rules/Finding", "line", "()I"⟩ : MethodName)) (z := (⟨"com/example/anteroom/anteroom/rules/Finding", "line", "()I"⟩ : MethodName)) hown (mvT hZ (hw _ (List.mem_of_getElem? (i := 87) rfl))) (mvT hZ (hw _ (List.mem_of_getElem? (i := 88) rfl))) (notFace_of_selects (args := #[]) (mvT hZ (hw _ (List.mem_of_getElem? (i := 90) rfl)))) (mvT hZ (hw _ (List.mem_of_getElem? (i := 90) rfl))) (mvT hZ (hw _ (List.mem_of_getElem? (i := 89) rfl))) (by decide) (backOf (W := 0) (own_gline l Z a0 hw [] (b_82) (j0) T82.heap n0 (O0.keep K92 all0) (po82_4)) hZ (hw _ (List.mem_of_getElem? (i := 91) rfl)) (hw _ (List.mem_of_getElem? (i := 62) rfl)) (by decide) (by decide)) qa96 qc96 (g := (mkF m 148 #[.val (.int j0), .val (.int j1), .val (.int j2), .val (.int j3), .val (.int j4), .val (.ref b1), .val (.ref b15), .val (.ref b28), .val (.ref b50), .val (.ref kd_69), .val (.ref b70), .val (.ref b_82), .val (.int (1 : Int32))] [(.ref b_82)])) rfl (by rw [hml]; rfl) (Steps.refl _) (argsL := []) (rest := []) (lenOf own_pd8 rfl) rfl (by show 2 * 0 + _ ≤ _; exact Nat.le_of_eq rfl) (hb hby at_148) (fun _ _ => ⟨rfl, hh94, (by decide : 8 + 0 ≤ _), (by decide : 26 + 0 ≤ _)⟩)
  dsimp only [Pt.U, Pt.locs, Pt.cells, Pt.slots] at X96 l96 y96 z96 st96 hQ96
  subst l96 y96 z96
  obtain ⟨rfl, Nq96, hh96⟩ := hQ96
  have N96 := Fr.app N94 Nq96
  obtain ⟨cq97, kq97, qa97, qb97, qc97⟩ := isOf hZ hh96 po82_2
  obtain ⟨_, _, ⟨T97, L97, k97, n97⟩, -, X97, ⟨Lc97, hQ97, l97, y97, z97⟩, st97⟩ := X96.virtualBack hx (y := (⟨"com/example/anteroom/anteroom/rules/Finding", "column", "()I"⟩ : MethodName)) (z := (⟨"com/example/anteroom/anteroom/rules/Finding", "column", "()I"⟩ : MethodName)) hown (mvT hZ (hw _ (List.mem_of_getElem? (i := 92) rfl))) (mvT hZ (hw _ (List.mem_of_getElem? (i := 93) rfl))) (notFace_of_selects (args := #[]) (mvT hZ (hw _ (List.mem_of_getElem? (i := 95) rfl)))) (mvT hZ (hw _ (List.mem_of_getElem? (i := 95) rfl))) (mvT hZ (hw _ (List.mem_of_getElem? (i := 94) rfl))) (by decide) (backOf (W := 0) (own_gcolumn l Z a0 hw [] (b_82) (j1) T82.heap n0 (O0.keep K92 all0) (po82_5)) hZ (hw _ (List.mem_of_getElem? (i := 96) rfl)) (hw _ (List.mem_of_getElem? (i := 62) rfl)) (by decide) (by decide)) qa97 qc97 (g := (mkF m 169 #[.val (.int j0), .val (.int j1), .val (.int j2), .val (.int j3), .val (.int j4), .val (.ref b1), .val (.ref b15), .val (.ref b28), .val (.ref b50), .val (.ref kd_69), .val (.ref b70), .val (.ref b_82), .val (.int (1 : Int32))] [(.ref b_82)])) rfl (by rw [hml]; rfl) (Steps.refl _) (argsL := []) (rest := []) (lenOf own_pd8 rfl) rfl (by show 2 * 0 + _ ≤ _; exact Nat.le_of_eq rfl) (hb hby at_169) (fun _ _ => ⟨rfl, hh96, (by decide : 8 + 0 ≤ _), (by decide : 26 + 0 ≤ _)⟩)
  dsimp only [Pt.U, Pt.locs, Pt.cells, Pt.slots] at X97 l97 y97 z97 st97 hQ97
  subst l97 y97 z97
  obtain ⟨rfl, Nq97, hh97⟩ := hQ97
  have N97 := Fr.app N96 Nq97
  obtain ⟨cq98, kq98, qa98, qb98, qc98⟩ := isOf hZ hh97 po82_2
  obtain ⟨_, _, ⟨T98, L98, k98, n98⟩, -, X98, ⟨Lc98, hQ98, l98, y98, z98⟩, st98⟩ := X97.virtualBack hx (y := (⟨"com/example/anteroom/anteroom/rules/Finding", "rule", "()Lcom/example/anteroom/anteroom/rules/Rule;"⟩ : MethodName)) (z := (⟨"com/example/anteroom/anteroom/rules/Finding", "rule", "()Lcom/example/anteroom/anteroom/rules/Rule;"⟩ : MethodName)) hown (mvT hZ (hw _ (List.mem_of_getElem? (i := 97) rfl))) (mvT hZ (hw _ (List.mem_of_getElem? (i := 98) rfl))) (notFace_of_selects (args := #[]) (mvT hZ (hw _ (List.mem_of_getElem? (i := 100) rfl)))) (mvT hZ (hw _ (List.mem_of_getElem? (i := 100) rfl))) (mvT hZ (hw _ (List.mem_of_getElem? (i := 99) rfl))) (by decide) (backOf (W := 0) (own_grule l Z a0 hw [] (b_82) (kd_69) T82.heap n0 (O0.keep K92 all0) (po82_6)) hZ (hw _ (List.mem_of_getElem? (i := 101) rfl)) (hw _ (List.mem_of_getElem? (i := 62) rfl)) (by decide) (by decide)) qa98 qc98 (g := (mkF m 190 #[.val (.int j0), .val (.int j1), .val (.int j2), .val (.int j3), .val (.int j4), .val (.ref b1), .val (.ref b15), .val (.ref b28), .val (.ref b50), .val (.ref kd_69), .val (.ref b70), .val (.ref b_82), .val (.int (1 : Int32))] [(.ref b_82)])) rfl (by rw [hml]; rfl) (Steps.refl _) (argsL := []) (rest := []) (lenOf own_pd9 rfl) rfl (by show 2 * 0 + _ ≤ _; exact Nat.le_of_eq rfl) (hb hby at_190) (fun _ _ => ⟨rfl, hh97, (by decide : 8 + 0 ≤ _), (by decide : 26 + 0 ≤ _)⟩)
  dsimp only [Pt.U, Pt.locs, Pt.cells, Pt.slots] at X98 l98 y98 z98 st98 hQ98
  subst l98 y98 z98
  obtain ⟨rfl, Nq98, hh98⟩ := hQ98
  have N98 := Fr.app N97 Nq98
  obtain ⟨cq99, kq99, qa99, qb99, qc99⟩ := isOf hZ hh98 po82_2
  obtain ⟨_, _, ⟨T99, L99, k99, n99⟩, -, X99, ⟨Lc99, hQ99, l99, y99, z99⟩, st99⟩ := X98.virtualBack hx (y := (⟨"com/example/anteroom/anteroom/rules/Finding", "message", "()Ljava/lang/String;"⟩ : MethodName)) (z := (⟨"com/example/anteroom/anteroom/rules/Finding", "message", "()Ljava/lang/String;"⟩ : MethodName)) hown (mvT hZ (hw _ (List.mem_of_getElem? (i := 102) rfl))) (mvT hZ (hw _ (List.mem_of_getElem? (i := 103) rfl))) (notFace_of_selects (args := #[]) (mvT hZ (hw _ (List.mem_of_getElem? (i := 105) rfl)))) (mvT hZ (hw _ (List.mem_of_getElem? (i := 105) rfl))) (mvT hZ (hw _ (List.mem_of_getElem? (i := 104) rfl))) (by decide) (backOf (W := 1) (own_gmessage l Z a0 hw [] (b_82) (b50) T82.heap n0 (O0.keep K92 all0) (po82_7)) hZ (hw _ (List.mem_of_getElem? (i := 106) rfl)) (hw _ (List.mem_of_getElem? (i := 62) rfl)) (by decide) (by decide)) qa99 qc99 (g := (mkF m 214 #[.val (.int j0), .val (.int j1), .val (.int j2), .val (.int j3), .val (.int j4), .val (.ref b1), .val (.ref b15), .val (.ref b28), .val (.ref b50), .val (.ref kd_69), .val (.ref b70), .val (.ref b_82), .val (.int (1 : Int32))] [(.ref b_82), (.ref b50)])) rfl (by rw [hml]; rfl) (Steps.refl _) (argsL := []) (rest := [(.ref b50)]) (lenOf own_pd6 rfl) rfl (by show 2 * 0 + _ ≤ _; exact Nat.le_of_eq rfl) (hb hby at_214) (fun _ _ => ⟨rfl, hh98, (by decide : 8 + 0 ≤ _), (by decide : 26 + 0 ≤ _)⟩)
  dsimp only [Pt.U, Pt.locs, Pt.cells, Pt.slots] at X99 l99 y99 z99 st99 hQ99
  subst l99 y99 z99
  obtain ⟨rfl, Nq99, hh99⟩ := hQ99
  have N99 := Fr.app N98 Nq99
  have f101 : Exa Z T82.heap b50 "java/lang/String" := (((Sr60.1.ext E70).keep Kq80).keep Kq82)
  obtain ⟨cq100, kq100, qa100, qb100, qc100⟩ := isOf hZ hh99 f101
  obtain ⟨_, _, ⟨T100, L100, k100, n100⟩, -, X100, ⟨Lc100, hQ100, l100, y100, z100⟩, st100⟩ := X99.virtualBack hx (y := (⟨"java/lang/String", "equals", "(Ljava/lang/Object;)Z"⟩ : MethodName)) (z := (⟨"java/lang/String", "equals", "(Ljava/lang/Object;)Z"⟩ : MethodName)) hown (mvT hZ (hw _ (List.mem_of_getElem? (i := 82) rfl))) (mvT hZ (hw _ (List.mem_of_getElem? (i := 83) rfl))) (notFace_of_selects (args := #[]) (mvT hZ (hw _ (List.mem_of_getElem? (i := 85) rfl)))) (mvT hZ (hw _ (List.mem_of_getElem? (i := 85) rfl))) (mvT hZ (hw _ (List.mem_of_getElem? (i := 84) rfl))) (by decide) (backOf (W := 0) (own_eqself l Z a0 hw [] (b50) T82.heap n0 (O0.keep K92 all0)) hZ (hw _ (List.mem_of_getElem? (i := 86) rfl)) (hw _ (List.mem_of_getElem? (i := 3) rfl)) (by decide) (by decide)) qa100 qc100 (g := (mkF m 217 #[.val (.int j0), .val (.int j1), .val (.int j2), .val (.int j3), .val (.int j4), .val (.ref b1), .val (.ref b15), .val (.ref b28), .val (.ref b50), .val (.ref kd_69), .val (.ref b70), .val (.ref b_82), .val (.int (1 : Int32))] [(.ref b50), (.ref b50)])) rfl (by rw [hml]; rfl) (Steps.refl _) (argsL := [(.ref b50)]) (rest := []) (lenOf own_pd7 rfl) rfl (by show 2 * 0 + _ ≤ _; exact Nat.le_of_eq rfl) (hb hby at_217) (fun _ _ => ⟨rfl, hh99, (by decide : 8 + 0 ≤ _), (by decide : 26 + 0 ≤ _)⟩)
  dsimp only [Pt.U, Pt.locs, Pt.cells, Pt.slots] at X100 l100 y100 z100 st100 hQ100
  subst l100 y100 z100
  obtain ⟨rfl, Nq100, hh100⟩ := hQ100
  have N100 := Fr.app N99 Nq100
  obtain ⟨fs, hr, hrun, hended, hW, hsame⟩ := X100.leave (v := some (.int (nar .boolean (1 : Int32)))) (fun h => by rw [Bd.returns] at h; cases h)
  refine ⟨_, _, r46 _ ?_, hrun, hended, _, _, rfl, ?_, ⟨_, rfl⟩, hW, hsame.mono (by decide) (by decide)⟩
  · show Steps p.tables e below (T43.setTop (mkF m 79 #[.val (.int j0), .val (.int j1), .val (.int j2), .val (.int j3), .val (.int j4), .val (.ref b1), .val (.ref b15), .val (.ref b28), .unset, .unset, .unset, .unset, .unset] [(.int d2), (.int (2 : Int32)), (.ref b28)])) _
    refine st48 _ ?_
    show Steps p.tables e below (T48.setTop (mkF m 80 #[.val (.int j0), .val (.int j1), .val (.int j2), .val (.int j3), .val (.int j4), .val (.ref b1), .val (.ref b15), .val (.ref b28), .unset, .unset, .unset, .unset, .unset] [])) _
    refine st50 _ ?_
    show Steps p.tables e below (T50.setTop (mkF m 83 #[.val (.int j0), .val (.int j1), .val (.int j2), .val (.int j3), .val (.int j4), .val (.ref b1), .val (.ref b15), .val (.ref b28), .unset, .unset, .unset, .unset, .unset] [(.ref b50)])) _
    refine XS.dup X50.here hx rfl (hb hby at_83) rfl rfl ?_
    show Steps p.tables e below (T50.setTop (mkF m 84 #[.val (.int j0), .val (.int j1), .val (.int j2), .val (.int j3), .val (.int j4), .val (.ref b1), .val (.ref b15), .val (.ref b28), .unset, .unset, .unset, .unset, .unset] [(.ref b50), (.ref b50)])) _
    refine XS.aload X50.here hx rfl (hb hby at_84) rfl rfl ?_
    show Steps p.tables e below (T50.setTop (mkF m 86 #[.val (.int j0), .val (.int j1), .val (.int j2), .val (.int j3), .val (.int j4), .val (.ref b1), .val (.ref b15), .val (.ref b28), .unset, .unset, .unset, .unset, .unset] [(.ref b28), (.ref b50), (.ref b50)])) _
    refine st60.trans ?_
    show Steps p.tables e below (T60.setTop (mkF m 89 #[.val (.int j0), .val (.int j1), .val (.int j2), .val (.int j3), .val (.int j4), .val (.ref b1), .val (.ref b15), .val (.ref b28), .unset, .unset, .unset, .unset, .unset] [(.ref b50)])) _
    refine XS.astore X60.here hx rfl (hb hby at_89) rfl rfl (l' := #[.val (.int j0), .val (.int j1), .val (.int j2), .val (.int j3), .val (.int j4), .val (.ref b1), .val (.ref b15), .val (.ref b28), .val (.ref b50), .unset, .unset, .unset, .unset]) rfl ?_
    show Steps p.tables e below (T60.setTop (mkF m 91 #[.val (.int j0), .val (.int j1), .val (.int j2), .val (.int j3), .val (.int j4), .val (.ref b1), .val (.ref b15), .val (.ref b28), .val (.ref b50), .unset, .unset, .unset, .unset] [])) _
    refine XS.iload X60.here hx rfl (hb hby at_91) rfl ?_
    show Steps p.tables e below (T60.setTop (mkF m 93 #[.val (.int j0), .val (.int j1), .val (.int j2), .val (.int j3), .val (.int j4), .val (.ref b1), .val (.ref b15), .val (.ref b28), .val (.ref b50), .unset, .unset, .unset, .unset] [(.int j4)])) _
    refine st69 _ ?_
    show Steps p.tables e below (T69.setTop (mkF m 96 #[.val (.int j0), .val (.int j1), .val (.int j2), .val (.int j3), .val (.int j4), .val (.ref b1), .val (.ref b15), .val (.ref b28), .val (.ref b50), .unset, .unset, .unset, .unset] [(.ref kd_69)])) _
    refine XS.astore X69.here hx rfl (hb hby at_96) rfl rfl (l' := #[.val (.int j0), .val (.int j1), .val (.int j2), .val (.int j3), .val (.int j4), .val (.ref b1), .val (.ref b15), .val (.ref b28), .val (.ref b50), .val (.ref kd_69), .unset, .unset, .unset]) rfl ?_
    show Steps p.tables e below (T69.setTop (mkF m 98 #[.val (.int j0), .val (.int j1), .val (.int j2), .val (.int j3), .val (.int j4), .val (.ref b1), .val (.ref b15), .val (.ref b28), .val (.ref b50), .val (.ref kd_69), .unset, .unset, .unset] [])) _
    refine st70 _ ?_
    show Steps p.tables e below (T70.setTop (mkF m 101 #[.val (.int j0), .val (.int j1), .val (.int j2), .val (.int j3), .val (.int j4), .val (.ref b1), .val (.ref b15), .val (.ref b28), .val (.ref b50), .val (.ref kd_69), .unset, .unset, .unset] [(.ref b70)])) _
    refine XS.dup X70.here hx rfl (hb hby at_101) rfl rfl ?_
    show Steps p.tables e below (T70.setTop (mkF m 102 #[.val (.int j0), .val (.int j1), .val (.int j2), .val (.int j3), .val (.int j4), .val (.ref b1), .val (.ref b15), .val (.ref b28), .val (.ref b50), .val (.ref kd_69), .unset, .unset, .unset] [(.ref b70), (.ref b70)])) _
    refine XS.aload X70.here hx rfl (hb hby at_102) rfl rfl ?_
    show Steps p.tables e below (T70.setTop (mkF m 104 #[.val (.int j0), .val (.int j1), .val (.int j2), .val (.int j3), .val (.int j4), .val (.ref b1), .val (.ref b15), .val (.ref b28), .val (.ref b50), .val (.ref kd_69), .unset, .unset, .unset] [(.ref b15), (.ref b70), (.ref b70)])) _
    refine XS.iloadN X70.here hx rfl (hb hby at_104) rfl ?_
    show Steps p.tables e below (T70.setTop (mkF m 105 #[.val (.int j0), .val (.int j1), .val (.int j2), .val (.int j3), .val (.int j4), .val (.ref b1), .val (.ref b15), .val (.ref b28), .val (.ref b50), .val (.ref kd_69), .unset, .unset, .unset] [(.int j0), (.ref b15), (.ref b70), (.ref b70)])) _
    refine XS.iloadN X70.here hx rfl (hb hby at_105) rfl ?_
    show Steps p.tables e below (T70.setTop (mkF m 106 #[.val (.int j0), .val (.int j1), .val (.int j2), .val (.int j3), .val (.int j4), .val (.ref b1), .val (.ref b15), .val (.ref b28), .val (.ref b50), .val (.ref kd_69), .unset, .unset, .unset] [(.int j1), (.int j0), (.ref b15), (.ref b70), (.ref b70)])) _
    refine st80.trans ?_
    show Steps p.tables e below (T80.setTop (mkF m 109 #[.val (.int j0), .val (.int j1), .val (.int j2), .val (.int j3), .val (.int j4), .val (.ref b1), .val (.ref b15), .val (.ref b28), .val (.ref b50), .val (.ref kd_69), .unset, .unset, .unset] [(.ref b70)])) _
    refine XS.astore X80.here hx rfl (hb hby at_109) rfl rfl (l' := #[.val (.int j0), .val (.int j1), .val (.int j2), .val (.int j3), .val (.int j4), .val (.ref b1), .val (.ref b15), .val (.ref b28), .val (.ref b50), .val (.ref kd_69), .val (.ref b70), .unset, .unset]) rfl ?_
    show Steps p.tables e below (T80.setTop (mkF m 111 #[.val (.int j0), .val (.int j1), .val (.int j2), .val (.int j3), .val (.int j4), .val (.ref b1), .val (.ref b15), .val (.ref b28), .val (.ref b50), .val (.ref kd_69), .val (.ref b70), .unset, .unset] [])) _
    refine XS.aload X80.here hx rfl (hb hby at_111) rfl rfl ?_
    show Steps p.tables e below (T80.setTop (mkF m 113 #[.val (.int j0), .val (.int j1), .val (.int j2), .val (.int j3), .val (.int j4), .val (.ref b1), .val (.ref b15), .val (.ref b28), .val (.ref b50), .val (.ref kd_69), .val (.ref b70), .unset, .unset] [(.ref b70)])) _
    refine XS.aload X80.here hx rfl (hb hby at_113) rfl rfl ?_
    show Steps p.tables e below (T80.setTop (mkF m 115 #[.val (.int j0), .val (.int j1), .val (.int j2), .val (.int j3), .val (.int j4), .val (.ref b1), .val (.ref b15), .val (.ref b28), .val (.ref b50), .val (.ref kd_69), .val (.ref b70), .unset, .unset] [(.ref kd_69), (.ref b70)])) _
    refine XS.aload X80.here hx rfl (hb hby at_115) rfl rfl ?_
    show Steps p.tables e below (T80.setTop (mkF m 117 #[.val (.int j0), .val (.int j1), .val (.int j2), .val (.int j3), .val (.int j4), .val (.ref b1), .val (.ref b15), .val (.ref b28), .val (.ref b50), .val (.ref kd_69), .val (.ref b70), .unset, .unset] [(.ref b50), (.ref kd_69), (.ref b70)])) _
    refine st82.trans ?_
    show Steps p.tables e below (T82.setTop (mkF m 120 #[.val (.int j0), .val (.int j1), .val (.int j2), .val (.int j3), .val (.int j4), .val (.ref b1), .val (.ref b15), .val (.ref b28), .val (.ref b50), .val (.ref kd_69), .val (.ref b70), .unset, .unset] [(.ref b_82)])) _
    refine XS.astore X82.here hx rfl (hb hby at_120) rfl rfl (l' := #[.val (.int j0), .val (.int j1), .val (.int j2), .val (.int j3), .val (.int j4), .val (.ref b1), .val (.ref b15), .val (.ref b28), .val (.ref b50), .val (.ref kd_69), .val (.ref b70), .val (.ref b_82), .unset]) rfl ?_
    show Steps p.tables e below (T82.setTop (mkF m 122 #[.val (.int j0), .val (.int j1), .val (.int j2), .val (.int j3), .val (.int j4), .val (.ref b1), .val (.ref b15), .val (.ref b28), .val (.ref b50), .val (.ref kd_69), .val (.ref b70), .val (.ref b_82), .unset] [])) _
    refine XS.aload X82.here hx rfl (hb hby at_122) rfl rfl ?_
    show Steps p.tables e below (T82.setTop (mkF m 124 #[.val (.int j0), .val (.int j1), .val (.int j2), .val (.int j3), .val (.int j4), .val (.ref b1), .val (.ref b15), .val (.ref b28), .val (.ref b50), .val (.ref kd_69), .val (.ref b70), .val (.ref b_82), .unset] [(.ref b_82)])) _
    refine XS.ifnonnullYes X82.here hx rfl (pc0 := 124) (pc' := 129) rfl (hb hby at_124) rfl (by decide) (by decide) ?_
    show Steps p.tables e below (T82.setTop (mkF m 129 #[.val (.int j0), .val (.int j1), .val (.int j2), .val (.int j3), .val (.int j4), .val (.ref b1), .val (.ref b15), .val (.ref b28), .val (.ref b50), .val (.ref kd_69), .val (.ref b70), .val (.ref b_82), .unset] [])) _
    refine XS.aload X82.here hx rfl (hb hby at_129) rfl rfl ?_
    show Steps p.tables e below (T82.setTop (mkF m 131 #[.val (.int j0), .val (.int j1), .val (.int j2), .val (.int j3), .val (.int j4), .val (.ref b1), .val (.ref b15), .val (.ref b28), .val (.ref b50), .val (.ref kd_69), .val (.ref b70), .val (.ref b_82), .unset] [(.ref b15)])) _
    refine XS.aload X82.here hx rfl (hb hby at_131) rfl rfl ?_
    show Steps p.tables e below (T82.setTop (mkF m 133 #[.val (.int j0), .val (.int j1), .val (.int j2), .val (.int j3), .val (.int j4), .val (.ref b1), .val (.ref b15), .val (.ref b28), .val (.ref b50), .val (.ref kd_69), .val (.ref b70), .val (.ref b_82), .unset] [(.ref b_82), (.ref b15)])) _
    refine st93.trans ?_
    show Steps p.tables e below (T93.setTop (mkF m 136 #[.val (.int j0), .val (.int j1), .val (.int j2), .val (.int j3), .val (.int j4), .val (.ref b1), .val (.ref b15), .val (.ref b28), .val (.ref b50), .val (.ref kd_69), .val (.ref b70), .val (.ref b_82), .unset] [(.ref b15), (.ref b15)])) _
    refine st94.trans ?_
    show Steps p.tables e below (T94.setTop (mkF m 139 #[.val (.int j0), .val (.int j1), .val (.int j2), .val (.int j3), .val (.int j4), .val (.ref b1), .val (.ref b15), .val (.ref b28), .val (.ref b50), .val (.ref kd_69), .val (.ref b70), .val (.ref b_82), .unset] [(.int (1 : Int32))])) _
    refine XS.istore X94.here hx rfl (hb hby at_139) rfl (l' := #[.val (.int j0), .val (.int j1), .val (.int j2), .val (.int j3), .val (.int j4), .val (.ref b1), .val (.ref b15), .val (.ref b28), .val (.ref b50), .val (.ref kd_69), .val (.ref b70), .val (.ref b_82), .val (.int (1 : Int32))]) rfl ?_
    show Steps p.tables e below (T94.setTop (mkF m 141 #[.val (.int j0), .val (.int j1), .val (.int j2), .val (.int j3), .val (.int j4), .val (.ref b1), .val (.ref b15), .val (.ref b28), .val (.ref b50), .val (.ref kd_69), .val (.ref b70), .val (.ref b_82), .val (.int (1 : Int32))] [])) _
    refine XS.iload X94.here hx rfl (hb hby at_141) rfl ?_
    show Steps p.tables e below (T94.setTop (mkF m 143 #[.val (.int j0), .val (.int j1), .val (.int j2), .val (.int j3), .val (.int j4), .val (.ref b1), .val (.ref b15), .val (.ref b28), .val (.ref b50), .val (.ref kd_69), .val (.ref b70), .val (.ref b_82), .val (.int (1 : Int32))] [(.int (1 : Int32))])) _
    refine XS.ifNo X94.here hx rfl (hb hby at_143) rfl ((if0 _ _).trans (feq (by decide)).1) ?_
    show Steps p.tables e below (T94.setTop (mkF m 146 #[.val (.int j0), .val (.int j1), .val (.int j2), .val (.int j3), .val (.int j4), .val (.ref b1), .val (.ref b15), .val (.ref b28), .val (.ref b50), .val (.ref kd_69), .val (.ref b70), .val (.ref b_82), .val (.int (1 : Int32))] [])) _
    refine XS.aload X94.here hx rfl (hb hby at_146) rfl rfl ?_
    show Steps p.tables e below (T94.setTop (mkF m 148 #[.val (.int j0), .val (.int j1), .val (.int j2), .val (.int j3), .val (.int j4), .val (.ref b1), .val (.ref b15), .val (.ref b28), .val (.ref b50), .val (.ref kd_69), .val (.ref b70), .val (.ref b_82), .val (.int (1 : Int32))] [(.ref b_82)])) _
    refine st96.trans ?_
    show Steps p.tables e below (T96.setTop (mkF m 151 #[.val (.int j0), .val (.int j1), .val (.int j2), .val (.int j3), .val (.int j4), .val (.ref b1), .val (.ref b15), .val (.ref b28), .val (.ref b50), .val (.ref kd_69), .val (.ref b70), .val (.ref b_82), .val (.int (1 : Int32))] [(.int j0)])) _
    refine XS.iloadN X96.here hx rfl (hb hby at_151) rfl ?_
    show Steps p.tables e below (T96.setTop (mkF m 152 #[.val (.int j0), .val (.int j1), .val (.int j2), .val (.int j3), .val (.int j4), .val (.ref b1), .val (.ref b15), .val (.ref b28), .val (.ref b50), .val (.ref kd_69), .val (.ref b70), .val (.ref b_82), .val (.int (1 : Int32))] [(.int j0), (.int j0)])) _
    refine XS.icmpNo X96.here hx rfl (hb hby at_152) rfl (teq rfl).2 ?_
    show Steps p.tables e below (T96.setTop (mkF m 155 #[.val (.int j0), .val (.int j1), .val (.int j2), .val (.int j3), .val (.int j4), .val (.ref b1), .val (.ref b15), .val (.ref b28), .val (.ref b50), .val (.ref kd_69), .val (.ref b70), .val (.ref b_82), .val (.int (1 : Int32))] [])) _
    refine XS.iconst X96.here hx rfl (hb hby at_155) ?_
    show Steps p.tables e below (T96.setTop (mkF m 156 #[.val (.int j0), .val (.int j1), .val (.int j2), .val (.int j3), .val (.int j4), .val (.ref b1), .val (.ref b15), .val (.ref b28), .val (.ref b50), .val (.ref kd_69), .val (.ref b70), .val (.ref b_82), .val (.int (1 : Int32))] [(.int (1 : Int32))])) _
    refine XS.goto X96.here hx rfl (pc0 := 156) (pc' := 160) rfl (hb hby at_156) (by decide) (by decide) ?_
    show Steps p.tables e below (T96.setTop (mkF m 160 #[.val (.int j0), .val (.int j1), .val (.int j2), .val (.int j3), .val (.int j4), .val (.ref b1), .val (.ref b15), .val (.ref b28), .val (.ref b50), .val (.ref kd_69), .val (.ref b70), .val (.ref b_82), .val (.int (1 : Int32))] [(.int (1 : Int32))])) _
    refine XS.istore X96.here hx rfl (hb hby at_160) rfl (l' := #[.val (.int j0), .val (.int j1), .val (.int j2), .val (.int j3), .val (.int j4), .val (.ref b1), .val (.ref b15), .val (.ref b28), .val (.ref b50), .val (.ref kd_69), .val (.ref b70), .val (.ref b_82), .val (.int (1 : Int32))]) rfl ?_
    show Steps p.tables e below (T96.setTop (mkF m 162 #[.val (.int j0), .val (.int j1), .val (.int j2), .val (.int j3), .val (.int j4), .val (.ref b1), .val (.ref b15), .val (.ref b28), .val (.ref b50), .val (.ref kd_69), .val (.ref b70), .val (.ref b_82), .val (.int (1 : Int32))] [])) _
    refine XS.iload X96.here hx rfl (hb hby at_162) rfl ?_
    show Steps p.tables e below (T96.setTop (mkF m 164 #[.val (.int j0), .val (.int j1), .val (.int j2), .val (.int j3), .val (.int j4), .val (.ref b1), .val (.ref b15), .val (.ref b28), .val (.ref b50), .val (.ref kd_69), .val (.ref b70), .val (.ref b_82), .val (.int (1 : Int32))] [(.int (1 : Int32))])) _
    refine XS.ifNo X96.here hx rfl (hb hby at_164) rfl ((if0 _ _).trans (feq (by decide)).1) ?_
    show Steps p.tables e below (T96.setTop (mkF m 167 #[.val (.int j0), .val (.int j1), .val (.int j2), .val (.int j3), .val (.int j4), .val (.ref b1), .val (.ref b15), .val (.ref b28), .val (.ref b50), .val (.ref kd_69), .val (.ref b70), .val (.ref b_82), .val (.int (1 : Int32))] [])) _
    refine XS.aload X96.here hx rfl (hb hby at_167) rfl rfl ?_
    show Steps p.tables e below (T96.setTop (mkF m 169 #[.val (.int j0), .val (.int j1), .val (.int j2), .val (.int j3), .val (.int j4), .val (.ref b1), .val (.ref b15), .val (.ref b28), .val (.ref b50), .val (.ref kd_69), .val (.ref b70), .val (.ref b_82), .val (.int (1 : Int32))] [(.ref b_82)])) _
    refine st97.trans ?_
    show Steps p.tables e below (T97.setTop (mkF m 172 #[.val (.int j0), .val (.int j1), .val (.int j2), .val (.int j3), .val (.int j4), .val (.ref b1), .val (.ref b15), .val (.ref b28), .val (.ref b50), .val (.ref kd_69), .val (.ref b70), .val (.ref b_82), .val (.int (1 : Int32))] [(.int j1)])) _
    refine XS.iloadN X97.here hx rfl (hb hby at_172) rfl ?_
    show Steps p.tables e below (T97.setTop (mkF m 173 #[.val (.int j0), .val (.int j1), .val (.int j2), .val (.int j3), .val (.int j4), .val (.ref b1), .val (.ref b15), .val (.ref b28), .val (.ref b50), .val (.ref kd_69), .val (.ref b70), .val (.ref b_82), .val (.int (1 : Int32))] [(.int j1), (.int j1)])) _
    refine XS.icmpNo X97.here hx rfl (hb hby at_173) rfl (teq rfl).2 ?_
    show Steps p.tables e below (T97.setTop (mkF m 176 #[.val (.int j0), .val (.int j1), .val (.int j2), .val (.int j3), .val (.int j4), .val (.ref b1), .val (.ref b15), .val (.ref b28), .val (.ref b50), .val (.ref kd_69), .val (.ref b70), .val (.ref b_82), .val (.int (1 : Int32))] [])) _
    refine XS.iconst X97.here hx rfl (hb hby at_176) ?_
    show Steps p.tables e below (T97.setTop (mkF m 177 #[.val (.int j0), .val (.int j1), .val (.int j2), .val (.int j3), .val (.int j4), .val (.ref b1), .val (.ref b15), .val (.ref b28), .val (.ref b50), .val (.ref kd_69), .val (.ref b70), .val (.ref b_82), .val (.int (1 : Int32))] [(.int (1 : Int32))])) _
    refine XS.goto X97.here hx rfl (pc0 := 177) (pc' := 181) rfl (hb hby at_177) (by decide) (by decide) ?_
    show Steps p.tables e below (T97.setTop (mkF m 181 #[.val (.int j0), .val (.int j1), .val (.int j2), .val (.int j3), .val (.int j4), .val (.ref b1), .val (.ref b15), .val (.ref b28), .val (.ref b50), .val (.ref kd_69), .val (.ref b70), .val (.ref b_82), .val (.int (1 : Int32))] [(.int (1 : Int32))])) _
    refine XS.istore X97.here hx rfl (hb hby at_181) rfl (l' := #[.val (.int j0), .val (.int j1), .val (.int j2), .val (.int j3), .val (.int j4), .val (.ref b1), .val (.ref b15), .val (.ref b28), .val (.ref b50), .val (.ref kd_69), .val (.ref b70), .val (.ref b_82), .val (.int (1 : Int32))]) rfl ?_
    show Steps p.tables e below (T97.setTop (mkF m 183 #[.val (.int j0), .val (.int j1), .val (.int j2), .val (.int j3), .val (.int j4), .val (.ref b1), .val (.ref b15), .val (.ref b28), .val (.ref b50), .val (.ref kd_69), .val (.ref b70), .val (.ref b_82), .val (.int (1 : Int32))] [])) _
    refine XS.iload X97.here hx rfl (hb hby at_183) rfl ?_
    show Steps p.tables e below (T97.setTop (mkF m 185 #[.val (.int j0), .val (.int j1), .val (.int j2), .val (.int j3), .val (.int j4), .val (.ref b1), .val (.ref b15), .val (.ref b28), .val (.ref b50), .val (.ref kd_69), .val (.ref b70), .val (.ref b_82), .val (.int (1 : Int32))] [(.int (1 : Int32))])) _
    refine XS.ifNo X97.here hx rfl (hb hby at_185) rfl ((if0 _ _).trans (feq (by decide)).1) ?_
    show Steps p.tables e below (T97.setTop (mkF m 188 #[.val (.int j0), .val (.int j1), .val (.int j2), .val (.int j3), .val (.int j4), .val (.ref b1), .val (.ref b15), .val (.ref b28), .val (.ref b50), .val (.ref kd_69), .val (.ref b70), .val (.ref b_82), .val (.int (1 : Int32))] [])) _
    refine XS.aload X97.here hx rfl (hb hby at_188) rfl rfl ?_
    show Steps p.tables e below (T97.setTop (mkF m 190 #[.val (.int j0), .val (.int j1), .val (.int j2), .val (.int j3), .val (.int j4), .val (.ref b1), .val (.ref b15), .val (.ref b28), .val (.ref b50), .val (.ref kd_69), .val (.ref b70), .val (.ref b_82), .val (.int (1 : Int32))] [(.ref b_82)])) _
    refine st98.trans ?_
    show Steps p.tables e below (T98.setTop (mkF m 193 #[.val (.int j0), .val (.int j1), .val (.int j2), .val (.int j3), .val (.int j4), .val (.ref b1), .val (.ref b15), .val (.ref b28), .val (.ref b50), .val (.ref kd_69), .val (.ref b70), .val (.ref b_82), .val (.int (1 : Int32))] [(.ref kd_69)])) _
    refine XS.aload X98.here hx rfl (hb hby at_193) rfl rfl ?_
    show Steps p.tables e below (T98.setTop (mkF m 195 #[.val (.int j0), .val (.int j1), .val (.int j2), .val (.int j3), .val (.int j4), .val (.ref b1), .val (.ref b15), .val (.ref b28), .val (.ref b50), .val (.ref kd_69), .val (.ref b70), .val (.ref b_82), .val (.int (1 : Int32))] [(.ref kd_69), (.ref kd_69)])) _
    refine Jvm.RoadKit.acmp (g := (mkF m 195 #[.val (.int j0), .val (.int j1), .val (.int j2), .val (.int j3), .val (.int j4), .val (.ref b1), .val (.ref b15), .val (.ref b28), .val (.ref b50), .val (.ref kd_69), .val (.ref b70), .val (.ref b_82), .val (.int (1 : Int32))] [(.ref kd_69), (.ref kd_69)])) X98 hx rfl rfl rfl (pc0 := 195) (pc' := 198) (same := true) rfl (hb hby at_195) rfl (decide_eq_true (congrArg Value.ref rfl)) (by decide) (by decide) ?_
    show Steps p.tables e below (T98.setTop (mkF m 198 #[.val (.int j0), .val (.int j1), .val (.int j2), .val (.int j3), .val (.int j4), .val (.ref b1), .val (.ref b15), .val (.ref b28), .val (.ref b50), .val (.ref kd_69), .val (.ref b70), .val (.ref b_82), .val (.int (1 : Int32))] [])) _
    refine XS.iconst X98.here hx rfl (hb hby at_198) ?_
    show Steps p.tables e below (T98.setTop (mkF m 199 #[.val (.int j0), .val (.int j1), .val (.int j2), .val (.int j3), .val (.int j4), .val (.ref b1), .val (.ref b15), .val (.ref b28), .val (.ref b50), .val (.ref kd_69), .val (.ref b70), .val (.ref b_82), .val (.int (1 : Int32))] [(.int (1 : Int32))])) _
    refine XS.goto X98.here hx rfl (pc0 := 199) (pc' := 203) rfl (hb hby at_199) (by decide) (by decide) ?_
    show Steps p.tables e below (T98.setTop (mkF m 203 #[.val (.int j0), .val (.int j1), .val (.int j2), .val (.int j3), .val (.int j4), .val (.ref b1), .val (.ref b15), .val (.ref b28), .val (.ref b50), .val (.ref kd_69), .val (.ref b70), .val (.ref b_82), .val (.int (1 : Int32))] [(.int (1 : Int32))])) _
    refine XS.istore X98.here hx rfl (hb hby at_203) rfl (l' := #[.val (.int j0), .val (.int j1), .val (.int j2), .val (.int j3), .val (.int j4), .val (.ref b1), .val (.ref b15), .val (.ref b28), .val (.ref b50), .val (.ref kd_69), .val (.ref b70), .val (.ref b_82), .val (.int (1 : Int32))]) rfl ?_
    show Steps p.tables e below (T98.setTop (mkF m 205 #[.val (.int j0), .val (.int j1), .val (.int j2), .val (.int j3), .val (.int j4), .val (.ref b1), .val (.ref b15), .val (.ref b28), .val (.ref b50), .val (.ref kd_69), .val (.ref b70), .val (.ref b_82), .val (.int (1 : Int32))] [])) _
    refine XS.iload X98.here hx rfl (hb hby at_205) rfl ?_
    show Steps p.tables e below (T98.setTop (mkF m 207 #[.val (.int j0), .val (.int j1), .val (.int j2), .val (.int j3), .val (.int j4), .val (.ref b1), .val (.ref b15), .val (.ref b28), .val (.ref b50), .val (.ref kd_69), .val (.ref b70), .val (.ref b_82), .val (.int (1 : Int32))] [(.int (1 : Int32))])) _
    refine XS.ifNo X98.here hx rfl (hb hby at_207) rfl ((if0 _ _).trans (feq (by decide)).1) ?_
    show Steps p.tables e below (T98.setTop (mkF m 210 #[.val (.int j0), .val (.int j1), .val (.int j2), .val (.int j3), .val (.int j4), .val (.ref b1), .val (.ref b15), .val (.ref b28), .val (.ref b50), .val (.ref kd_69), .val (.ref b70), .val (.ref b_82), .val (.int (1 : Int32))] [])) _
    refine XS.aload X98.here hx rfl (hb hby at_210) rfl rfl ?_
    show Steps p.tables e below (T98.setTop (mkF m 212 #[.val (.int j0), .val (.int j1), .val (.int j2), .val (.int j3), .val (.int j4), .val (.ref b1), .val (.ref b15), .val (.ref b28), .val (.ref b50), .val (.ref kd_69), .val (.ref b70), .val (.ref b_82), .val (.int (1 : Int32))] [(.ref b50)])) _
    refine XS.aload X98.here hx rfl (hb hby at_212) rfl rfl ?_
    show Steps p.tables e below (T98.setTop (mkF m 214 #[.val (.int j0), .val (.int j1), .val (.int j2), .val (.int j3), .val (.int j4), .val (.ref b1), .val (.ref b15), .val (.ref b28), .val (.ref b50), .val (.ref kd_69), .val (.ref b70), .val (.ref b_82), .val (.int (1 : Int32))] [(.ref b_82), (.ref b50)])) _
    refine st99.trans ?_
    show Steps p.tables e below (T99.setTop (mkF m 217 #[.val (.int j0), .val (.int j1), .val (.int j2), .val (.int j3), .val (.int j4), .val (.ref b1), .val (.ref b15), .val (.ref b28), .val (.ref b50), .val (.ref kd_69), .val (.ref b70), .val (.ref b_82), .val (.int (1 : Int32))] [(.ref b50), (.ref b50)])) _
    refine st100.trans ?_
    show Steps p.tables e below (T100.setTop (mkF m 220 #[.val (.int j0), .val (.int j1), .val (.int j2), .val (.int j3), .val (.int j4), .val (.ref b1), .val (.ref b15), .val (.ref b28), .val (.ref b50), .val (.ref kd_69), .val (.ref b70), .val (.ref b_82), .val (.int (1 : Int32))] [(.int (1 : Int32))])) _
    refine XS.ifNo X100.here hx rfl (hb hby at_220) rfl ((if0 _ _).trans (feq (by decide)).1) ?_
    show Steps p.tables e below (T100.setTop (mkF m 223 #[.val (.int j0), .val (.int j1), .val (.int j2), .val (.int j3), .val (.int j4), .val (.ref b1), .val (.ref b15), .val (.ref b28), .val (.ref b50), .val (.ref kd_69), .val (.ref b70), .val (.ref b_82), .val (.int (1 : Int32))] [])) _
    refine XS.iconst X100.here hx rfl (hb hby at_223) ?_
    show Steps p.tables e below (T100.setTop (mkF m 224 #[.val (.int j0), .val (.int j1), .val (.int j2), .val (.int j3), .val (.int j4), .val (.ref b1), .val (.ref b15), .val (.ref b28), .val (.ref b50), .val (.ref kd_69), .val (.ref b70), .val (.ref b_82), .val (.int (1 : Int32))] [(.int (1 : Int32))])) _
    refine XS.goto X100.here hx rfl (pc0 := 224) (pc' := 228) rfl (hb hby at_224) (by decide) (by decide) ?_
    show Steps p.tables e below (T100.setTop (mkF m 228 #[.val (.int j0), .val (.int j1), .val (.int j2), .val (.int j3), .val (.int j4), .val (.ref b1), .val (.ref b15), .val (.ref b28), .val (.ref b50), .val (.ref kd_69), .val (.ref b70), .val (.ref b_82), .val (.int (1 : Int32))] [(.int (1 : Int32))])) _
    refine XS.istore X100.here hx rfl (hb hby at_228) rfl (l' := #[.val (.int j0), .val (.int j1), .val (.int j2), .val (.int j3), .val (.int j4), .val (.ref b1), .val (.ref b15), .val (.ref b28), .val (.ref b50), .val (.ref kd_69), .val (.ref b70), .val (.ref b_82), .val (.int (1 : Int32))]) rfl ?_
    show Steps p.tables e below (T100.setTop (mkF m 230 #[.val (.int j0), .val (.int j1), .val (.int j2), .val (.int j3), .val (.int j4), .val (.ref b1), .val (.ref b15), .val (.ref b28), .val (.ref b50), .val (.ref kd_69), .val (.ref b70), .val (.ref b_82), .val (.int (1 : Int32))] [])) _
    refine XS.iload X100.here hx rfl (hb hby at_230) rfl ?_
    show Steps p.tables e below (T100.setTop (mkF m 232 #[.val (.int j0), .val (.int j1), .val (.int j2), .val (.int j3), .val (.int j4), .val (.ref b1), .val (.ref b15), .val (.ref b28), .val (.ref b50), .val (.ref kd_69), .val (.ref b70), .val (.ref b_82), .val (.int (1 : Int32))] [(.int (1 : Int32))])) _
    exact retN X100 hx (t := .boolean) Bd.returns (by simp) (hb hby at_232) hr
  · show Q_own_law Z j0 j1 j2 j3 j4 u0 u1 u2 u3 G1 h0 n0 _ T100.heap _
    rw [hh100]
    exact ⟨rfl, N100⟩
set_option maxRecDepth 65536 in
set_option maxHeartbeats 40000000 in
theorem comes_1 {Post : Tables → Env → Array Value → State → Outcome → State → Prop} (hpost : ∀ tb e args s v u, (limb_1_1.after args s (.returned v) u = true ∧ limb_1_2.after args s (.returned v) u = true ∧ True) → FrameEnd s (.returned v) u (Jvm.fieldLocs frame_1_writes args s ++ Jvm.arrayLocs frame_1_arrays args s ++ Jvm.staticLocs frame_1_statics s) 24 128 → Post tb e args s (.returned v) u) :
    ArmFor flags0 classFile x code maxLocals ret World_1 tables_1 room_1 Calls_1 rest_1 Pre_1 Post := by
  intro l hfl _ _ p e ha hc hk s m args below hf hA hF happ hP
  obtain ⟨hcalls, hrest, hpre⟩ := hP
  obtain ⟨-, -, -, hnamed, -, -, -, hat⟩ := (Spec.applies_iff hf).mp happ
  obtain ⟨hg, hn⟩ := and_e (Cond.before_iff.mp (show (Jvm.Cond.and given_1 narrow_1).before args s = true from hpre))
  obtain ⟨g0, g1⟩ := and_e hg
  obtain ⟨g1, g2⟩ := and_e g1
  obtain ⟨g2, g3⟩ := and_e g2
  obtain ⟨g3, g4⟩ := and_e g3
  obtain ⟨g4, g5⟩ := and_e g4
  obtain ⟨w0, w1, w2, w3, w4, rfl⟩ : ∃ (w0 : Value) (w1 : Value) (w2 : Value) (w3 : Value) (w4 : Value), args = #[w0, w1, w2, w3, w4] := by
    have hs : args.size = 5 := by simpa [Cond.value, given_1] using g0
    obtain ⟨L⟩ := args
    match L, hs with
    | [w0, w1, w2, w3, w4], _ => exact ⟨w0, w1, w2, w3, w4, rfl⟩
  have hw := fun d (hd : d ∈ tables_1) => atoms_spec (ws := Jvm.Cond.code x code maxLocals ret :: tables_1) hat d (List.mem_cons_of_mem _ hd)
  obtain ⟨hsets, hown0⟩ := atoms_of _ (rest_1_c_eq ▸ (show rest_1_c.before _ s = true from hrest))
  have hfit : Fit s := fun {y c} hc i hi => by
    obtain ⟨ha, rfl⟩ := Array.getElem?_eq_some_iff.mp hc
    have q := List.all_eq_true.mp ((Array.all_eq_true_iff_forall_mem.mp hF) _ (Array.getElem_mem ha)) i (List.mem_range.mpr hi)
    simpa [Array.getElem?_eq_getElem hi] using q
  obtain ⟨i0, ev0⟩ := is_v g1
  obtain rfl : w0 = (.int i0) := Option.some.inj ev0
  obtain ⟨i1, ev1⟩ := is_v g2
  obtain rfl : w1 = (.int i1) := Option.some.inj ev1
  obtain ⟨i2, ev2⟩ := is_v g3
  obtain rfl : w2 = (.int i2) := Option.some.inj ev2
  obtain ⟨i3, ev3⟩ := is_v g4
  obtain rfl : w3 = (.int i3) := Option.some.inj ev3
  obtain ⟨i4, ev4⟩ := is_v g5
  obtain rfl : w4 = (.int i4) := Option.some.inj ev4
  obtain ⟨n0, hn1⟩ := and_e hn
  obtain ⟨n1, hn2⟩ := and_e hn1
  obtain ⟨n2, n3⟩ := and_e hn2
  obtain ⟨a_PARSE, ev_PARSE⟩ := exa_v n0
  have X_PARSE := Exa.start ev_PARSE n0
  have S_PARSE := Sta.start ev_PARSE (Or.inr ⟨(hw _ (List.mem_of_getElem? (i := 35) rfl)), (hw _ (List.mem_of_getElem? (i := 36) rfl))⟩)
  obtain ⟨a_NOT_JUDGED, ev_NOT_JUDGED⟩ := exa_v n1
  have X_NOT_JUDGED := Exa.start ev_NOT_JUDGED n1
  have S_NOT_JUDGED := Sta.start ev_NOT_JUDGED (Or.inr ⟨(hw _ (List.mem_of_getElem? (i := 35) rfl)), (hw _ (List.mem_of_getElem? (i := 108) rfl))⟩)
  obtain ⟨a_UNRESOLVED_SUPERTYPE, ev_UNRESOLVED_SUPERTYPE⟩ := exa_v n2
  have X_UNRESOLVED_SUPERTYPE := Exa.start ev_UNRESOLVED_SUPERTYPE n2
  have S_UNRESOLVED_SUPERTYPE := Sta.start ev_UNRESOLVED_SUPERTYPE (Or.inr ⟨(hw _ (List.mem_of_getElem? (i := 35) rfl)), (hw _ (List.mem_of_getElem? (i := 110) rfl))⟩)
  obtain ⟨a_EARLY_THIS, ev_EARLY_THIS⟩ := exa_v n3
  have X_EARLY_THIS := Exa.start ev_EARLY_THIS n3
  have S_EARLY_THIS := Sta.start ev_EARLY_THIS (Or.inr ⟨(hw _ (List.mem_of_getElem? (i := 35) rfl)), (hw _ (List.mem_of_getElem? (i := 112) rfl))⟩)
  obtain ⟨G1, eG1⟩ := is_v (Cond.before_iff.mp (hsets _ (List.mem_of_getElem? (i := 1) rfl)))
  have S_CS : Sta s s.heap "java/lang/String" "COMPACT_STRINGS" "Z" (.int G1) := Sta.start eG1 (Or.inl (hsets _ (List.mem_of_getElem? (i := 0) rfl)))
  have nG1 := not_v (Cond.before_iff.mp (hsets _ (List.mem_of_getElem? (i := 2) rfl)))
  have hG1 : ¬ (G1 = (0 : Int32)) := gotF (Cond.eq_ints eG1 (Term.int_eval (0))) nG1
  obtain ⟨n, o, h1, h2, h3, _, L, rfl, ⟨rfl, N⟩, hq⟩ := own_law l s _ hw tables_1 i0 i1 i2 i3 i4 a_PARSE a_UNRESOLVED_SUPERTYPE a_EARLY_THIS a_NOT_JUDGED G1 s.heap s.heap.size (Old.start s) S_PARSE S_UNRESOLVED_SUPERTYPE S_EARLY_THIS S_NOT_JUDGED S_CS hG1 p e ha hc hk s m _ below hf ((Spec.applies_iff_loose hf).mp happ).1 ⟨rfl, State.Warmed39.refl s, rfl⟩ trivial
  refine ⟨n, _, h1, h2, h3, hpost _ _ _ _ _ _ ⟨Cond.after_iff.mpr rfl, Cond.after_iff.mpr (eq_i res_at (Term.int_eval (1)) rfl), trivial⟩ ⟨hq.1, hq.2.1, (hq.2.2.sift fun y hy => Or.inr (N y hy)).mono (by decide) (by decide)⟩⟩
theorem main_1_1 : Claimed_1_1 := comes_1 fun _ _ _ _ _ _ h hF => ⟨h.1, hF⟩
theorem main_1_2 : Claimed_1_2 := comes_1 fun _ _ _ _ _ _ h hF => ⟨h.2.1, hF⟩
end Jvm.Pilot.@@N@@
namespace Jvm.Pilot.@@N@@
open Jvm Jvm.ClassFile Sem Op Lib Jvm.Free Jvm.Stand Jvm.Pilot.@@N@@.Jvm.D
/-! MADE BY PROGRAM (witnessworld.py) out of the Statement's table words and the real class files: 24 classes; the members and pool entries that the words name. The judged class is class 1, her method 2. -/
namespace start1
open Jvm.ClassFile
def u (s : String) : CpInfo := .utf8 (stringToUtf16 s)
/-- a pool by its gaps: so many unusable entries, then the entry; so many at the end -/
def gap : Nat → List CpInfo → List CpInfo
  | 0, r => r
  | n + 1, r => .unusable :: gap n r
def poolList (es : List (Nat × CpInfo)) (last : Nat) : List CpInfo := es.foldr (fun e r => gap e.1 (e.2 :: r)) (gap last [])
def pool (es : List (Nat × CpInfo)) (last : Nat) : Array CpInfo := ⟨poolList es last⟩
def fileOf (pool : Array CpInfo) (this : Nat) (attrs : Array Attribute := #[]) (ms : Array MethodInfo := #[]) (fl : Nat := 33) (sup : Nat := 0) (ifs : Array Nat := #[]) (fds : Array FieldInfo := #[]) : ClassFile where
  minorVersion := 0
  majorVersion := 65
  constantPool := pool
  accessFlags := fl
  thisClass := this
  superClass := sup
  interfaces := ifs
  fields := fds
  methods := ms
  attributes := attrs
def plain (name : String) (sup : Option ClassId) : Class where
  name := name
  kind := .ordinary
  loader := none
  accessFlags := 33
  super := sup
  interfaces := #[]
  cf := none
  fields := #[]
  methods := #[]
  instanceTypes := #[]
  staticTypes := #[]
  resolved := #[]
  callSites := []
  init := .initialized
  statics := none
  mirror := none

def pool0 : Array CpInfo := pool [(5, u "<init>"), (0, u "()V"), (1, .class_ 10), (1, u "java/lang/Object")] 113

def k0c0 : Code := { maxStack := 0, maxLocals := 1, code := object_method_1_code, exceptionTable := #[], attributes := #[] }
def k0m0 : Method := { name := "<init>", desc := "()V", sig := { parameters := [], returnType := none }, accessFlags := 1, code := some k0c0 }
/-- java/lang/Object -/
def k0 : Class := { plain "java/lang/Object" none with
  accessFlags := 33
  interfaces := #[]
  cf := some (fileOf pool0 8 #[] #[{ accessFlags := 1, nameIndex := 5, descriptorIndex := 6, attributes := #[] }] 33 0 #[] #[])
  fields := #[]
  methods := #[k0m0]
  instanceTypes := #[]
  staticTypes := #[]
  resolved := Array.replicate 124 none
  statics := none }

def pool1 : Array CpInfo := pool [(2, .class_ 4), (1, u "java/lang/Object"), (0, u "<init>"), (0, u "()V"), (0, .fieldref 8 9), (0, .class_ 10), (0, .nameAndType 11 12), (0, u "com/example/anteroom/anteroom/rules/Rule"), (0, u "PARSE"), (0, u "Lcom/example/anteroom/anteroom/rules/Rule;"), (0, .fieldref 8 14), (0, .nameAndType 15 12), (0, u "UNRESOLVED_SUPERTYPE"), (0, .fieldref 8 17), (0, .nameAndType 18 12), (0, u "EARLY_THIS"), (0, .fieldref 8 20), (0, .nameAndType 21 12), (0, u "NOT_JUDGED"), (0, .class_ 23), (0, u "java/lang/String"), (0, .methodref 22 25), (0, .nameAndType 5 26), (0, u "([C)V"), (0, .methodref 28 29), (0, .class_ 30), (0, .nameAndType 31 32), (0, u "com/example/anteroom/anteroom/rules/PlaceFindingPinLaw"), (0, u "pick"), (0, u "(I)Lcom/example/anteroom/anteroom/rules/Rule;"), (0, .class_ 34), (0, u "com/example/anteroom/anteroom/rules/Place"), (0, .methodref 33 36), (0, .nameAndType 5 37), (0, u "(Ljava/lang/String;II)V"), (0, .methodref 33 39), (0, .nameAndType 40 41), (0, u "finding"), (0, u "(Lcom/example/anteroom/anteroom/rules/Rule;Ljava/lang/String;)Lcom/example/anteroom/anteroom/rules/Finding;"), (0, .methodref 43 44), (0, .class_ 45), (0, .nameAndType 46 47), (0, u "com/example/anteroom/anteroom/rules/Finding"), (0, u "path"), (0, u "()Ljava/lang/String;"), (0, .methodref 22 49), (0, .nameAndType 50 51), (0, u "equals"), (0, u "(Ljava/lang/Object;)Z"), (0, .methodref 43 53), (0, .nameAndType 54 55), (0, u "line"), (0, u "()I"), (0, .methodref 43 57), (0, .nameAndType 58 55), (0, u "column"), (0, .methodref 43 60), (0, .nameAndType 61 62), (0, u "rule"), (0, u "()Lcom/example/anteroom/anteroom/rules/Rule;"), (0, .methodref 43 64), (0, .nameAndType 65 47), (0, u "message"), (3, u "law"), (0, u "(IIIII)Z")] 4

def k1m0 : Method := { name := "<init>", desc := "()V", sig := { parameters := [], returnType := none }, accessFlags := 1, code := none }
def k1c1 : Code := { maxStack := 2, maxLocals := 2, code := method_2_code, exceptionTable := #[], attributes := #[] }
def k1m1 : Method := { name := "pick", desc := "(I)Lcom/example/anteroom/anteroom/rules/Rule;", sig := { parameters := [.int], returnType := some (.object "com/example/anteroom/anteroom/rules/Rule") }, accessFlags := 10, code := some k1c1 }
def k1c2 : Code := { maxStack := 5, maxLocals := 13, code := code, exceptionTable := #[], attributes := #[] }
def k1m2 : Method := { name := "law", desc := "(IIIII)Z", sig := { parameters := [.int, .int, .int, .int, .int], returnType := some .boolean }, accessFlags := 9, code := some k1c2 }
/-- com/example/anteroom/anteroom/rules/PlaceFindingPinLaw -/
def k1 : Class := { plain "com/example/anteroom/anteroom/rules/PlaceFindingPinLaw" (some 0) with
  accessFlags := 49
  interfaces := #[]
  cf := some (fileOf pool1 28 #[] #[{ accessFlags := 1, nameIndex := 5, descriptorIndex := 6, attributes := #[] }, { accessFlags := 10, nameIndex := 31, descriptorIndex := 32, attributes := #[] }, { accessFlags := 9, nameIndex := 69, descriptorIndex := 70, attributes := #[] }] 49 2 #[] #[])
  fields := #[]
  methods := #[k1m0, k1m1, k1m2]
  instanceTypes := #[]
  staticTypes := #[]
  resolved := Array.replicate 75 none
  statics := none }

def pool2 : Array CpInfo := pool [(1, .class_ 2), (0, u "java/io/Serializable"), (0, .class_ 4), (0, u "java/lang/Object")] 2

/-- java/io/Serializable -/
def k2 : Class := { plain "java/io/Serializable" (some 0) with
  accessFlags := 1537
  interfaces := #[]
  cf := some (fileOf pool2 1 #[] #[] 1537 3 #[] #[])
  fields := #[]
  methods := #[]
  instanceTypes := #[]
  staticTypes := #[]
  resolved := Array.replicate 7 none
  statics := none }

def pool3 : Array CpInfo := pool [(1, .class_ 2), (0, u "java/lang/Comparable"), (0, .class_ 4), (0, u "java/lang/Object")] 7

/-- java/lang/Comparable -/
def k3 : Class := { plain "java/lang/Comparable" (some 0) with
  accessFlags := 1537
  interfaces := #[]
  cf := some (fileOf pool3 1 #[] #[] 1537 3 #[] #[])
  fields := #[]
  methods := #[]
  instanceTypes := #[]
  staticTypes := #[]
  resolved := Array.replicate 12 none
  statics := none }

def pool4 : Array CpInfo := pool [(2, .class_ 4), (1, u "java/lang/CharSequence"), (42, .class_ 48), (0, u "java/lang/CharSequence$1CodePointIterator"), (10, .class_ 60), (0, u "java/lang/CharSequence$1CharIterator"), (5, .class_ 67), (0, u "java/lang/Object")] 63

/-- java/lang/CharSequence -/
def k4 : Class := { plain "java/lang/CharSequence" (some 0) with
  accessFlags := 1537
  interfaces := #[]
  cf := some (fileOf pool4 2 #[.nestMembers #[47, 59]] #[] 1537 66 #[] #[])
  fields := #[]
  methods := #[]
  instanceTypes := #[]
  staticTypes := #[]
  resolved := Array.replicate 131 none
  statics := none }

def pool5 : Array CpInfo := pool [(1, .class_ 2), (0, u "java/lang/constant/Constable"), (0, .class_ 4), (0, u "java/lang/Object")] 6

/-- java/lang/constant/Constable -/
def k5 : Class := { plain "java/lang/constant/Constable" (some 0) with
  accessFlags := 1537
  interfaces := #[]
  cf := some (fileOf pool5 1 #[] #[] 1537 3 #[] #[])
  fields := #[]
  methods := #[]
  instanceTypes := #[]
  staticTypes := #[]
  resolved := Array.replicate 11 none
  statics := none }

def pool6 : Array CpInfo := pool [(1, .class_ 2), (0, u "java/lang/constant/ConstantDesc"), (0, .class_ 4), (0, u "java/lang/Object")] 32

/-- java/lang/constant/ConstantDesc -/
def k6 : Class := { plain "java/lang/constant/ConstantDesc" (some 0) with
  accessFlags := 1537
  interfaces := #[]
  cf := some (fileOf pool6 1 #[] #[] 1537 3 #[] #[])
  fields := #[]
  methods := #[]
  instanceTypes := #[]
  staticTypes := #[]
  resolved := Array.replicate 37 none
  statics := none }

def pool7 : Array CpInfo := pool [(1, .methodref 2 3), (0, .class_ 4), (0, .nameAndType 5 6), (0, u "java/lang/Object"), (0, u "<init>"), (0, u "()V"), (2, .fieldref 10 11), (0, .class_ 12), (0, .nameAndType 13 14), (0, u "java/lang/String"), (0, u "value"), (0, u "[B"), (0, .fieldref 10 16), (0, .nameAndType 17 18), (0, u "coder"), (0, u "B"), (2, u "hash"), (0, u "I"), (2, u "hashIsZero"), (0, u "Z"), (0, .methodref 10 28), (0, .nameAndType 5 29), (0, u "([CIILjava/lang/Void;)V"), (8, .fieldref 10 39), (0, .nameAndType 40 26), (0, u "COMPACT_STRINGS"), (1, .class_ 44), (1, u "java/lang/StringUTF16"), (0, u "compress"), (1, .methodref 42 48), (0, .nameAndType 49 50), (0, u "coderFromArrayLen"), (0, u "([BI)B"), (126, .methodref 42 178), (0, .nameAndType 45 179), (0, u "([CII)[B"), (363, u "equals"), (29, u "(Ljava/lang/Object;)Z"), (1, .class_ 576), (0, u "java/lang/CharSequence"), (22, u "CASE_INSENSITIVE_ORDER"), (0, u "Ljava/util/Comparator;"), (409, u "([C)V"), (90, u "serialPersistentFields"), (0, u "[Ljava/io/ObjectStreamField;"), (0, .class_ 1104), (0, u "java/lang/String$CaseInsensitiveComparator"), (1, .class_ 1107), (0, u "java/io/Serializable"), (0, .class_ 1109), (0, u "java/lang/Comparable"), (0, .class_ 1111), (0, u "java/lang/constant/Constable"), (0, .class_ 1113), (0, u "java/lang/constant/ConstantDesc"), (2, u "serialVersionUID"), (0, u "J"), (3, u "REPL"), (0, u "C"), (2, u "LATIN1"), (1, u "UTF16")] 323

def k7m0 : Method := { name := "<init>", desc := "()V", sig := { parameters := [], returnType := none }, accessFlags := 1, code := none }
def k7c1 : Code := { maxStack := 5, maxLocals := 2, code := jdk_42_method_3_code, exceptionTable := #[], attributes := #[] }
def k7m1 : Method := { name := "<init>", desc := "([C)V", sig := { parameters := [(.array .char)], returnType := none }, accessFlags := 1, code := some k7c1 }
def k7c2 : Code := { maxStack := 2, maxLocals := 3, code := jdk_42_method_66_code, exceptionTable := #[], attributes := #[] }
def k7m2 : Method := { name := "equals", desc := "(Ljava/lang/Object;)Z", sig := { parameters := [(.object "java/lang/Object")], returnType := some .boolean }, accessFlags := 1, code := some k7c2 }
def k7c3 : Code := { maxStack := 4, maxLocals := 6, code := jdk_42_method_149_code, exceptionTable := #[], attributes := #[] }
def k7m3 : Method := { name := "<init>", desc := "([CIILjava/lang/Void;)V", sig := { parameters := [(.array .char), .int, .int, (.object "java/lang/Void")], returnType := none }, accessFlags := 2, code := some k7c3 }
/-- java/lang/String -/
def k7 : Class := { plain "java/lang/String" (some 0) with
  accessFlags := 49
  interfaces := #[2, 3, 4, 5, 6]
  cf := some (fileOf pool7 10 #[.nestMembers #[1103]] #[{ accessFlags := 1, nameIndex := 5, descriptorIndex := 6, attributes := #[] }, { accessFlags := 1, nameIndex := 5, descriptorIndex := 1010, attributes := #[] }, { accessFlags := 1, nameIndex := 543, descriptorIndex := 573, attributes := #[] }, { accessFlags := 2, nameIndex := 5, descriptorIndex := 29, attributes := #[] }] 49 2 #[1106, 1108, 575, 1110, 1112] #[{ accessFlags := 18, nameIndex := 13, descriptorIndex := 14, attributes := #[] }, { accessFlags := 18, nameIndex := 17, descriptorIndex := 18, attributes := #[] }, { accessFlags := 2, nameIndex := 21, descriptorIndex := 22, attributes := #[] }, { accessFlags := 2, nameIndex := 25, descriptorIndex := 26, attributes := #[] }, { accessFlags := 26, nameIndex := 1116, descriptorIndex := 1117, attributes := #[] }, { accessFlags := 24, nameIndex := 40, descriptorIndex := 26, attributes := #[] }, { accessFlags := 26, nameIndex := 1101, descriptorIndex := 1102, attributes := #[] }, { accessFlags := 26, nameIndex := 1121, descriptorIndex := 1122, attributes := #[] }, { accessFlags := 25, nameIndex := 599, descriptorIndex := 600, attributes := #[] }, { accessFlags := 24, nameIndex := 1125, descriptorIndex := 18, attributes := #[] }, { accessFlags := 24, nameIndex := 1127, descriptorIndex := 18, attributes := #[] }])
  fields := #[{ name := "value", type := (.array .byte), accessFlags := 18, slot := 0, constantValue := 0 }, { name := "coder", type := .byte, accessFlags := 18, slot := 1, constantValue := 0 }, { name := "hash", type := .int, accessFlags := 2, slot := 2, constantValue := 0 }, { name := "hashIsZero", type := .boolean, accessFlags := 2, slot := 3, constantValue := 0 }, { name := "serialVersionUID", type := .long, accessFlags := 26, slot := 0, constantValue := 0 }, { name := "COMPACT_STRINGS", type := .boolean, accessFlags := 24, slot := 1, constantValue := 0 }, { name := "serialPersistentFields", type := (.array (.object "java/io/ObjectStreamField")), accessFlags := 26, slot := 2, constantValue := 0 }, { name := "REPL", type := .char, accessFlags := 26, slot := 3, constantValue := 0 }, { name := "CASE_INSENSITIVE_ORDER", type := (.object "java/util/Comparator"), accessFlags := 25, slot := 4, constantValue := 0 }, { name := "LATIN1", type := .byte, accessFlags := 24, slot := 5, constantValue := 0 }, { name := "UTF16", type := .byte, accessFlags := 24, slot := 6, constantValue := 0 }]
  methods := #[k7m0, k7m1, k7m2, k7m3]
  instanceTypes := #[(.array .byte), .byte, .int, .boolean]
  staticTypes := #[.long, .boolean, (.array (.object "java/io/ObjectStreamField")), .char, (.object "java/util/Comparator"), .byte, .byte]
  resolved := Array.replicate 1451 none
  statics := some 0 }

def pool8 : Array CpInfo := pool [(6, .class_ 8), (1, u "java/lang/Object"), (0, u "<init>"), (0, u "()V"), (1, .class_ 14), (1, u "java/lang/StringUTF16"), (31, u "$assertionsDisabled"), (0, u "Z"), (13, u "HI_BYTE_SHIFT"), (0, u "I"), (2, u "LO_BYTE_SHIFT"), (49, .methodref 12 116), (0, .nameAndType 117 118), (0, u "compress"), (0, u "([CI[BII)I"), (3, u "([CII)[B"), (138, u "coderFromArrayLen"), (0, u "([BI)B"), (106, .class_ 371), (1, u "java/lang/StringUTF16$LinesSpliterator"), (58, u "MAX_LENGTH"), (196, .class_ 628), (0, u "java/lang/StringUTF16$CodePointsSpliterator"), (0, .class_ 630), (0, u "java/lang/StringUTF16$CharsSpliterator")] 4

def k8m0 : Method := { name := "<init>", desc := "()V", sig := { parameters := [], returnType := none }, accessFlags := 0, code := none }
def k8c1 : Code := { maxStack := 2, maxLocals := 2, code := jdk_52_method_15_code, exceptionTable := #[], attributes := #[] }
def k8m1 : Method := { name := "coderFromArrayLen", desc := "([BI)B", sig := { parameters := [(.array .byte), .int], returnType := some .byte }, accessFlags := 8, code := some k8c1 }
def k8c2 : Code := { maxStack := 5, maxLocals := 6, code := jdk_52_method_16_code, exceptionTable := #[], attributes := #[] }
def k8m2 : Method := { name := "compress", desc := "([CII)[B", sig := { parameters := [(.array .char), .int, .int], returnType := some (.array .byte) }, accessFlags := 9, code := some k8c2 }
def k8c3 : Code := { maxStack := 3, maxLocals := 7, code := jdk_52_method_21_code, exceptionTable := #[], attributes := #[] }
def k8m3 : Method := { name := "compress", desc := "([CI[BII)I", sig := { parameters := [(.array .char), .int, (.array .byte), .int, .int], returnType := some .int }, accessFlags := 9, code := some k8c3 }
/-- java/lang/StringUTF16 -/
def k8 : Class := { plain "java/lang/StringUTF16" (some 0) with
  accessFlags := 48
  interfaces := #[]
  cf := some (fileOf pool8 12 #[.nestMembers #[627, 629, 369]] #[{ accessFlags := 0, nameIndex := 9, descriptorIndex := 10, attributes := #[] }, { accessFlags := 8, nameIndex := 261, descriptorIndex := 262, attributes := #[] }, { accessFlags := 9, nameIndex := 117, descriptorIndex := 122, attributes := #[] }, { accessFlags := 9, nameIndex := 117, descriptorIndex := 118, attributes := #[] }] 48 6 #[] #[{ accessFlags := 26, nameIndex := 61, descriptorIndex := 62, attributes := #[] }, { accessFlags := 26, nameIndex := 65, descriptorIndex := 62, attributes := #[] }, { accessFlags := 24, nameIndex := 430, descriptorIndex := 62, attributes := #[] }, { accessFlags := 4120, nameIndex := 46, descriptorIndex := 47, attributes := #[] }])
  fields := #[{ name := "HI_BYTE_SHIFT", type := .int, accessFlags := 26, slot := 0, constantValue := 0 }, { name := "LO_BYTE_SHIFT", type := .int, accessFlags := 26, slot := 1, constantValue := 0 }, { name := "MAX_LENGTH", type := .int, accessFlags := 24, slot := 2, constantValue := 0 }, { name := "$assertionsDisabled", type := .boolean, accessFlags := 4120, slot := 3, constantValue := 0 }]
  methods := #[k8m0, k8m1, k8m2, k8m3]
  instanceTypes := #[]
  staticTypes := #[.int, .int, .int, .boolean]
  resolved := Array.replicate 635 none
  statics := none }

def pool9 : Array CpInfo := pool [(2, .class_ 4), (1, u "java/lang/Enum"), (0, u "name"), (0, u "Ljava/lang/String;"), (2, u "ordinal"), (0, u "I"), (1, .class_ 14), (1, u "java/lang/Object"), (4, u "hash"), (86, .class_ 108), (1, u "java/lang/Enum$EnumDesc"), (2, .class_ 112), (0, u "java/lang/constant/Constable"), (0, .class_ 114), (0, u "java/lang/Comparable"), (0, .class_ 116), (0, u "java/io/Serializable")] 87

/-- java/lang/Enum -/
def k9 : Class := { plain "java/lang/Enum" (some 0) with
  accessFlags := 1057
  interfaces := #[5, 3, 2]
  cf := some (fileOf pool9 2 #[.nestMembers #[106]] #[] 1057 12 #[111, 113, 115] #[{ accessFlags := 18, nameIndex := 5, descriptorIndex := 6, attributes := #[] }, { accessFlags := 18, nameIndex := 9, descriptorIndex := 10, attributes := #[] }, { accessFlags := 2, nameIndex := 19, descriptorIndex := 10, attributes := #[] }])
  fields := #[{ name := "name", type := (.object "java/lang/String"), accessFlags := 18, slot := 0, constantValue := 0 }, { name := "ordinal", type := .int, accessFlags := 18, slot := 1, constantValue := 0 }, { name := "hash", type := .int, accessFlags := 2, slot := 2, constantValue := 0 }]
  methods := #[]
  instanceTypes := #[(.object "java/lang/String"), .int, .int]
  staticTypes := #[]
  resolved := Array.replicate 204 none
  statics := none }

def pool10 : Array CpInfo := pool [(1, .class_ 2), (0, u "com/example/anteroom/anteroom/rules/Rule"), (2, u "PARSE"), (0, u "Lcom/example/anteroom/anteroom/rules/Rule;"), (2, u "INVOCATION_NOT_TOP_LEVEL"), (2, u "INVOCATION_OUTSIDE_CONSTRUCTOR"), (2, u "DUPLICATE_INVOCATION"), (2, u "PROLOGUE_RETURN"), (2, u "RECORD_CANONICAL_INVOCATION"), (2, u "RECORD_SUPER"), (2, u "RECORD_MISSING_THIS"), (2, u "ENUM_SUPER"), (2, u "EARLY_THIS"), (2, u "EARLY_SUPER"), (2, u "EARLY_FIELD_READ"), (2, u "EARLY_ASSIGNMENT"), (2, u "EARLY_METHOD_CALL"), (2, u "EARLY_INNER_CREATION"), (2, u "UNRESOLVED_SUPERTYPE"), (2, u "NOT_JUDGED"), (2, u "$VALUES"), (0, u "[Lcom/example/anteroom/anteroom/rules/Rule;"), (6, .class_ 67), (1, u "java/lang/Enum"), (8, u "id"), (0, u "Ljava/lang/String;"), (2, u "severity"), (0, u "Lcom/example/anteroom/anteroom/rules/Severity;"), (2, u "description")] 114

/-- com/example/anteroom/anteroom/rules/Rule -/
def k10 : Class := { plain "com/example/anteroom/anteroom/rules/Rule" (some 9) with
  accessFlags := 16433
  interfaces := #[]
  cf := some (fileOf pool10 1 #[] #[] 16433 65 #[] #[{ accessFlags := 16409, nameIndex := 5, descriptorIndex := 6, attributes := #[] }, { accessFlags := 16409, nameIndex := 9, descriptorIndex := 6, attributes := #[] }, { accessFlags := 16409, nameIndex := 12, descriptorIndex := 6, attributes := #[] }, { accessFlags := 16409, nameIndex := 15, descriptorIndex := 6, attributes := #[] }, { accessFlags := 16409, nameIndex := 18, descriptorIndex := 6, attributes := #[] }, { accessFlags := 16409, nameIndex := 21, descriptorIndex := 6, attributes := #[] }, { accessFlags := 16409, nameIndex := 24, descriptorIndex := 6, attributes := #[] }, { accessFlags := 16409, nameIndex := 27, descriptorIndex := 6, attributes := #[] }, { accessFlags := 16409, nameIndex := 30, descriptorIndex := 6, attributes := #[] }, { accessFlags := 16409, nameIndex := 33, descriptorIndex := 6, attributes := #[] }, { accessFlags := 16409, nameIndex := 36, descriptorIndex := 6, attributes := #[] }, { accessFlags := 16409, nameIndex := 39, descriptorIndex := 6, attributes := #[] }, { accessFlags := 16409, nameIndex := 42, descriptorIndex := 6, attributes := #[] }, { accessFlags := 16409, nameIndex := 45, descriptorIndex := 6, attributes := #[] }, { accessFlags := 16409, nameIndex := 48, descriptorIndex := 6, attributes := #[] }, { accessFlags := 16409, nameIndex := 51, descriptorIndex := 6, attributes := #[] }, { accessFlags := 16409, nameIndex := 54, descriptorIndex := 6, attributes := #[] }, { accessFlags := 18, nameIndex := 76, descriptorIndex := 77, attributes := #[] }, { accessFlags := 18, nameIndex := 80, descriptorIndex := 81, attributes := #[] }, { accessFlags := 18, nameIndex := 84, descriptorIndex := 77, attributes := #[] }, { accessFlags := 4122, nameIndex := 57, descriptorIndex := 58, attributes := #[] }])
  fields := #[{ name := "PARSE", type := (.object "com/example/anteroom/anteroom/rules/Rule"), accessFlags := 16409, slot := 0, constantValue := 0 }, { name := "INVOCATION_NOT_TOP_LEVEL", type := (.object "com/example/anteroom/anteroom/rules/Rule"), accessFlags := 16409, slot := 1, constantValue := 0 }, { name := "INVOCATION_OUTSIDE_CONSTRUCTOR", type := (.object "com/example/anteroom/anteroom/rules/Rule"), accessFlags := 16409, slot := 2, constantValue := 0 }, { name := "DUPLICATE_INVOCATION", type := (.object "com/example/anteroom/anteroom/rules/Rule"), accessFlags := 16409, slot := 3, constantValue := 0 }, { name := "PROLOGUE_RETURN", type := (.object "com/example/anteroom/anteroom/rules/Rule"), accessFlags := 16409, slot := 4, constantValue := 0 }, { name := "RECORD_CANONICAL_INVOCATION", type := (.object "com/example/anteroom/anteroom/rules/Rule"), accessFlags := 16409, slot := 5, constantValue := 0 }, { name := "RECORD_SUPER", type := (.object "com/example/anteroom/anteroom/rules/Rule"), accessFlags := 16409, slot := 6, constantValue := 0 }, { name := "RECORD_MISSING_THIS", type := (.object "com/example/anteroom/anteroom/rules/Rule"), accessFlags := 16409, slot := 7, constantValue := 0 }, { name := "ENUM_SUPER", type := (.object "com/example/anteroom/anteroom/rules/Rule"), accessFlags := 16409, slot := 8, constantValue := 0 }, { name := "EARLY_THIS", type := (.object "com/example/anteroom/anteroom/rules/Rule"), accessFlags := 16409, slot := 9, constantValue := 0 }, { name := "EARLY_SUPER", type := (.object "com/example/anteroom/anteroom/rules/Rule"), accessFlags := 16409, slot := 10, constantValue := 0 }, { name := "EARLY_FIELD_READ", type := (.object "com/example/anteroom/anteroom/rules/Rule"), accessFlags := 16409, slot := 11, constantValue := 0 }, { name := "EARLY_ASSIGNMENT", type := (.object "com/example/anteroom/anteroom/rules/Rule"), accessFlags := 16409, slot := 12, constantValue := 0 }, { name := "EARLY_METHOD_CALL", type := (.object "com/example/anteroom/anteroom/rules/Rule"), accessFlags := 16409, slot := 13, constantValue := 0 }, { name := "EARLY_INNER_CREATION", type := (.object "com/example/anteroom/anteroom/rules/Rule"), accessFlags := 16409, slot := 14, constantValue := 0 }, { name := "UNRESOLVED_SUPERTYPE", type := (.object "com/example/anteroom/anteroom/rules/Rule"), accessFlags := 16409, slot := 15, constantValue := 0 }, { name := "NOT_JUDGED", type := (.object "com/example/anteroom/anteroom/rules/Rule"), accessFlags := 16409, slot := 16, constantValue := 0 }, { name := "id", type := (.object "java/lang/String"), accessFlags := 18, slot := 3, constantValue := 0 }, { name := "severity", type := (.object "com/example/anteroom/anteroom/rules/Severity"), accessFlags := 18, slot := 4, constantValue := 0 }, { name := "description", type := (.object "java/lang/String"), accessFlags := 18, slot := 5, constantValue := 0 }, { name := "$VALUES", type := (.array (.object "com/example/anteroom/anteroom/rules/Rule")), accessFlags := 4122, slot := 17, constantValue := 0 }]
  methods := #[]
  instanceTypes := #[(.object "java/lang/String"), .int, .int, (.object "java/lang/String"), (.object "com/example/anteroom/anteroom/rules/Severity"), (.object "java/lang/String")]
  staticTypes := #[(.object "com/example/anteroom/anteroom/rules/Rule"), (.object "com/example/anteroom/anteroom/rules/Rule"), (.object "com/example/anteroom/anteroom/rules/Rule"), (.object "com/example/anteroom/anteroom/rules/Rule"), (.object "com/example/anteroom/anteroom/rules/Rule"), (.object "com/example/anteroom/anteroom/rules/Rule"), (.object "com/example/anteroom/anteroom/rules/Rule"), (.object "com/example/anteroom/anteroom/rules/Rule"), (.object "com/example/anteroom/anteroom/rules/Rule"), (.object "com/example/anteroom/anteroom/rules/Rule"), (.object "com/example/anteroom/anteroom/rules/Rule"), (.object "com/example/anteroom/anteroom/rules/Rule"), (.object "com/example/anteroom/anteroom/rules/Rule"), (.object "com/example/anteroom/anteroom/rules/Rule"), (.object "com/example/anteroom/anteroom/rules/Rule"), (.object "com/example/anteroom/anteroom/rules/Rule"), (.object "com/example/anteroom/anteroom/rules/Rule"), (.array (.object "com/example/anteroom/anteroom/rules/Rule"))]
  resolved := Array.replicate 199 none
  statics := some 1 }

def pool11 : Array CpInfo := pool [(1, .methodref 2 3), (0, .class_ 4), (0, .nameAndType 5 6), (0, u "java/lang/Object"), (0, u "<init>"), (0, u "()V"), (0, .class_ 8), (0, u "java/lang/Record")] 13

def k11c0 : Code := { maxStack := 1, maxLocals := 1, code := jdk_30_method_1_code, exceptionTable := #[], attributes := #[] }
def k11m0 : Method := { name := "<init>", desc := "()V", sig := { parameters := [], returnType := none }, accessFlags := 4, code := some k11c0 }
/-- java/lang/Record -/
def k11 : Class := { plain "java/lang/Record" (some 0) with
  accessFlags := 1057
  interfaces := #[]
  cf := some (fileOf pool11 7 #[] #[{ accessFlags := 4, nameIndex := 5, descriptorIndex := 6, attributes := #[] }] 1057 2 #[] #[])
  fields := #[]
  methods := #[k11m0]
  instanceTypes := #[]
  staticTypes := #[]
  resolved := Array.replicate 22 none
  statics := none }

def pool12 : Array CpInfo := pool [(1, .methodref 2 3), (0, .class_ 4), (0, .nameAndType 5 6), (0, u "java/lang/Record"), (0, u "<init>"), (0, u "()V"), (0, .fieldref 8 9), (0, .class_ 10), (0, .nameAndType 11 12), (0, u "com/example/anteroom/anteroom/rules/Place"), (0, u "path"), (0, u "Ljava/lang/String;"), (0, .fieldref 8 14), (0, .nameAndType 15 16), (0, u "line"), (0, u "I"), (0, .fieldref 8 18), (0, .nameAndType 19 16), (0, u "column"), (0, .class_ 21), (0, u "com/example/anteroom/anteroom/rules/Finding"), (0, .methodref 20 23), (0, .nameAndType 5 24), (0, u "(Ljava/lang/String;IILcom/example/anteroom/anteroom/rules/Rule;Ljava/lang/String;)V"), (29, u "finding"), (0, u "(Lcom/example/anteroom/anteroom/rules/Rule;Ljava/lang/String;)Lcom/example/anteroom/anteroom/rules/Finding;"), (12, u "(Ljava/lang/String;II)V")] 41

def k12c0 : Code := { maxStack := 2, maxLocals := 4, code := prog_21_method_1_code, exceptionTable := #[], attributes := #[] }
def k12m0 : Method := { name := "<init>", desc := "(Ljava/lang/String;II)V", sig := { parameters := [(.object "java/lang/String"), .int, .int], returnType := none }, accessFlags := 0, code := some k12c0 }
def k12c1 : Code := { maxStack := 7, maxLocals := 3, code := prog_21_method_2_code, exceptionTable := #[], attributes := #[] }
def k12m1 : Method := { name := "finding", desc := "(Lcom/example/anteroom/anteroom/rules/Rule;Ljava/lang/String;)Lcom/example/anteroom/anteroom/rules/Finding;", sig := { parameters := [(.object "com/example/anteroom/anteroom/rules/Rule"), (.object "java/lang/String")], returnType := some (.object "com/example/anteroom/anteroom/rules/Finding") }, accessFlags := 0, code := some k12c1 }
/-- com/example/anteroom/anteroom/rules/Place -/
def k12 : Class := { plain "com/example/anteroom/anteroom/rules/Place" (some 11) with
  accessFlags := 48
  interfaces := #[]
  cf := some (fileOf pool12 8 #[] #[{ accessFlags := 0, nameIndex := 5, descriptorIndex := 68, attributes := #[] }, { accessFlags := 0, nameIndex := 54, descriptorIndex := 55, attributes := #[] }] 48 2 #[] #[{ accessFlags := 18, nameIndex := 11, descriptorIndex := 12, attributes := #[] }, { accessFlags := 18, nameIndex := 15, descriptorIndex := 16, attributes := #[] }, { accessFlags := 18, nameIndex := 19, descriptorIndex := 16, attributes := #[] }])
  fields := #[{ name := "path", type := (.object "java/lang/String"), accessFlags := 18, slot := 0, constantValue := 0 }, { name := "line", type := .int, accessFlags := 18, slot := 1, constantValue := 0 }, { name := "column", type := .int, accessFlags := 18, slot := 2, constantValue := 0 }]
  methods := #[k12m0, k12m1]
  instanceTypes := #[(.object "java/lang/String"), .int, .int]
  staticTypes := #[]
  resolved := Array.replicate 110 none
  statics := none }

def pool13 : Array CpInfo := pool [(1, .methodref 2 3), (0, .class_ 4), (0, .nameAndType 5 6), (0, u "java/lang/Record"), (0, u "<init>"), (0, u "()V"), (0, .fieldref 8 9), (0, .class_ 10), (0, .nameAndType 11 12), (0, u "com/example/anteroom/anteroom/rules/Finding"), (0, u "path"), (0, u "Ljava/lang/String;"), (0, .fieldref 8 14), (0, .nameAndType 15 16), (0, u "line"), (0, u "I"), (0, .fieldref 8 18), (0, .nameAndType 19 16), (0, u "column"), (0, .fieldref 8 21), (0, .nameAndType 22 23), (0, u "rule"), (0, u "Lcom/example/anteroom/anteroom/rules/Rule;"), (0, .fieldref 8 25), (0, .nameAndType 26 12), (0, u "message"), (20, u "()Lcom/example/anteroom/anteroom/rules/Rule;"), (3, u "()Ljava/lang/String;"), (52, u "ORDER"), (0, u "Ljava/util/Comparator;"), (2, u "(Ljava/lang/String;IILcom/example/anteroom/anteroom/rules/Rule;Ljava/lang/String;)V"), (3, u "()I")] 60

def k13c0 : Code := { maxStack := 2, maxLocals := 6, code := prog_20_method_1_code, exceptionTable := #[], attributes := #[] }
def k13m0 : Method := { name := "<init>", desc := "(Ljava/lang/String;IILcom/example/anteroom/anteroom/rules/Rule;Ljava/lang/String;)V", sig := { parameters := [(.object "java/lang/String"), .int, .int, (.object "com/example/anteroom/anteroom/rules/Rule"), (.object "java/lang/String")], returnType := none }, accessFlags := 1, code := some k13c0 }
def k13c1 : Code := { maxStack := 1, maxLocals := 1, code := prog_20_method_7_code, exceptionTable := #[], attributes := #[] }
def k13m1 : Method := { name := "path", desc := "()Ljava/lang/String;", sig := { parameters := [], returnType := some (.object "java/lang/String") }, accessFlags := 1, code := some k13c1 }
def k13c2 : Code := { maxStack := 1, maxLocals := 1, code := prog_20_method_8_code, exceptionTable := #[], attributes := #[] }
def k13m2 : Method := { name := "line", desc := "()I", sig := { parameters := [], returnType := some .int }, accessFlags := 1, code := some k13c2 }
def k13c3 : Code := { maxStack := 1, maxLocals := 1, code := prog_20_method_9_code, exceptionTable := #[], attributes := #[] }
def k13m3 : Method := { name := "column", desc := "()I", sig := { parameters := [], returnType := some .int }, accessFlags := 1, code := some k13c3 }
def k13c4 : Code := { maxStack := 1, maxLocals := 1, code := prog_20_method_10_code, exceptionTable := #[], attributes := #[] }
def k13m4 : Method := { name := "rule", desc := "()Lcom/example/anteroom/anteroom/rules/Rule;", sig := { parameters := [], returnType := some (.object "com/example/anteroom/anteroom/rules/Rule") }, accessFlags := 1, code := some k13c4 }
def k13c5 : Code := { maxStack := 1, maxLocals := 1, code := prog_20_method_11_code, exceptionTable := #[], attributes := #[] }
def k13m5 : Method := { name := "message", desc := "()Ljava/lang/String;", sig := { parameters := [], returnType := some (.object "java/lang/String") }, accessFlags := 1, code := some k13c5 }
/-- com/example/anteroom/anteroom/rules/Finding -/
def k13 : Class := { plain "com/example/anteroom/anteroom/rules/Finding" (some 11) with
  accessFlags := 49
  interfaces := #[]
  cf := some (fileOf pool13 8 #[] #[{ accessFlags := 1, nameIndex := 5, descriptorIndex := 108, attributes := #[] }, { accessFlags := 1, nameIndex := 11, descriptorIndex := 51, attributes := #[] }, { accessFlags := 1, nameIndex := 15, descriptorIndex := 112, attributes := #[] }, { accessFlags := 1, nameIndex := 19, descriptorIndex := 112, attributes := #[] }, { accessFlags := 1, nameIndex := 22, descriptorIndex := 47, attributes := #[] }, { accessFlags := 1, nameIndex := 26, descriptorIndex := 51, attributes := #[] }] 49 2 #[] #[{ accessFlags := 18, nameIndex := 11, descriptorIndex := 12, attributes := #[] }, { accessFlags := 18, nameIndex := 15, descriptorIndex := 16, attributes := #[] }, { accessFlags := 18, nameIndex := 19, descriptorIndex := 16, attributes := #[] }, { accessFlags := 18, nameIndex := 22, descriptorIndex := 23, attributes := #[] }, { accessFlags := 18, nameIndex := 26, descriptorIndex := 12, attributes := #[] }, { accessFlags := 25, nameIndex := 104, descriptorIndex := 105, attributes := #[] }])
  fields := #[{ name := "path", type := (.object "java/lang/String"), accessFlags := 18, slot := 0, constantValue := 0 }, { name := "line", type := .int, accessFlags := 18, slot := 1, constantValue := 0 }, { name := "column", type := .int, accessFlags := 18, slot := 2, constantValue := 0 }, { name := "rule", type := (.object "com/example/anteroom/anteroom/rules/Rule"), accessFlags := 18, slot := 3, constantValue := 0 }, { name := "message", type := (.object "java/lang/String"), accessFlags := 18, slot := 4, constantValue := 0 }, { name := "ORDER", type := (.object "java/util/Comparator"), accessFlags := 25, slot := 0, constantValue := 0 }]
  methods := #[k13m0, k13m1, k13m2, k13m3, k13m4, k13m5]
  instanceTypes := #[(.object "java/lang/String"), .int, .int, (.object "com/example/anteroom/anteroom/rules/Rule"), (.object "java/lang/String")]
  staticTypes := #[(.object "java/util/Comparator")]
  resolved := Array.replicate 173 none
  statics := none }

def pool14 : Array CpInfo := pool [(4, .class_ 6), (1, u "java/lang/Object"), (0, u "<init>"), (0, u "()V"), (5, .class_ 16), (1, u "java/lang/StringLatin1"), (104, u "$assertionsDisabled"), (0, u "Z"), (98, .class_ 223), (1, u "java/lang/StringLatin1$LinesSpliterator"), (166, .class_ 391), (0, u "java/lang/StringLatin1$CharsSpliterator")] 3

def k14m0 : Method := { name := "<init>", desc := "()V", sig := { parameters := [], returnType := none }, accessFlags := 0, code := none }
/-- java/lang/StringLatin1 -/
def k14 : Class := { plain "java/lang/StringLatin1" (some 0) with
  accessFlags := 48
  interfaces := #[]
  cf := some (fileOf pool14 14 #[.nestMembers #[390, 221]] #[{ accessFlags := 0, nameIndex := 7, descriptorIndex := 8, attributes := #[] }] 48 4 #[] #[{ accessFlags := 4120, nameIndex := 121, descriptorIndex := 122, attributes := #[] }])
  fields := #[{ name := "$assertionsDisabled", type := .boolean, accessFlags := 4120, slot := 0, constantValue := 0 }]
  methods := #[k14m0]
  instanceTypes := #[]
  staticTypes := #[.boolean]
  resolved := Array.replicate 395 none
  statics := none }

def pool15 : Array CpInfo := pool [(2, .class_ 4), (1, u "java/lang/Object"), (0, u "<init>"), (0, u "()V"), (17, .class_ 26), (1, u "jdk/internal/util/Preconditions"), (28, .class_ 56), (0, u "jdk/internal/util/Preconditions$4"), (57, .class_ 115), (0, u "jdk/internal/util/Preconditions$1"), (7, u "SIOOBE_FORMATTER"), (0, u "Ljava/util/function/BiFunction;"), (0, .class_ 126), (0, u "jdk/internal/util/Preconditions$2"), (3, u "AIOOBE_FORMATTER"), (0, .class_ 132), (0, u "jdk/internal/util/Preconditions$3"), (3, u "IOOBE_FORMATTER")] 57

def k15m0 : Method := { name := "<init>", desc := "()V", sig := { parameters := [], returnType := none }, accessFlags := 1, code := none }
/-- jdk/internal/util/Preconditions -/
def k15 : Class := { plain "jdk/internal/util/Preconditions" (some 0) with
  accessFlags := 33
  interfaces := #[]
  cf := some (fileOf pool15 24 #[.nestMembers #[55, 131, 125, 114]] #[{ accessFlags := 1, nameIndex := 5, descriptorIndex := 6, attributes := #[] }] 33 2 #[] #[{ accessFlags := 25, nameIndex := 123, descriptorIndex := 124, attributes := #[] }, { accessFlags := 25, nameIndex := 130, descriptorIndex := 124, attributes := #[] }, { accessFlags := 25, nameIndex := 136, descriptorIndex := 124, attributes := #[] }])
  fields := #[{ name := "SIOOBE_FORMATTER", type := (.object "java/util/function/BiFunction"), accessFlags := 25, slot := 0, constantValue := 0 }, { name := "AIOOBE_FORMATTER", type := (.object "java/util/function/BiFunction"), accessFlags := 25, slot := 1, constantValue := 0 }, { name := "IOOBE_FORMATTER", type := (.object "java/util/function/BiFunction"), accessFlags := 25, slot := 2, constantValue := 0 }]
  methods := #[k15m0]
  instanceTypes := #[]
  staticTypes := #[(.object "java/util/function/BiFunction"), (.object "java/util/function/BiFunction"), (.object "java/util/function/BiFunction")]
  resolved := Array.replicate 194 none
  statics := some 2 }

def pool16 : Array CpInfo := pool [(9, u "<init>"), (6, .class_ 18), (1, u "java/lang/Object"), (0, u "()V"), (1, .class_ 23), (1, u "jdk/internal/util/ArraysSupport"), (0, u "LOG2_ARRAY_LONG_INDEX_SCALE"), (0, u "I"), (2, u "U"), (0, u "Ljdk/internal/misc/Unsafe;"), (8, u "BIG_ENDIAN"), (0, u "Z"), (8, u "LOG2_BYTE_BIT_SIZE"), (4, u "LOG2_ARRAY_INT_INDEX_SCALE"), (54, u "JLA"), (0, u "Ljdk/internal/access/JavaLangAccess;"), (11, u "LOG2_ARRAY_BOOLEAN_INDEX_SCALE"), (9, u "LOG2_ARRAY_BYTE_INDEX_SCALE"), (5, u "LOG2_ARRAY_CHAR_INDEX_SCALE"), (5, u "LOG2_ARRAY_SHORT_INDEX_SCALE"), (18, u "LOG2_ARRAY_FLOAT_INDEX_SCALE"), (24, u "LOG2_ARRAY_DOUBLE_INDEX_SCALE"), (89, u "T_BOOLEAN"), (2, u "T_CHAR"), (1, u "T_FLOAT"), (1, u "T_DOUBLE"), (1, u "T_BYTE"), (1, u "T_SHORT"), (1, u "T_INT"), (1, u "T_LONG"), (1, u "SOFT_MAX_ARRAY_LENGTH")] 83

def k16m0 : Method := { name := "<init>", desc := "()V", sig := { parameters := [], returnType := none }, accessFlags := 2, code := none }
/-- jdk/internal/util/ArraysSupport -/
def k16 : Class := { plain "jdk/internal/util/ArraysSupport" (some 0) with
  accessFlags := 33
  interfaces := #[]
  cf := some (fileOf pool16 21 #[] #[{ accessFlags := 2, nameIndex := 9, descriptorIndex := 19, attributes := #[] }] 33 16 #[] #[{ accessFlags := 24, nameIndex := 28, descriptorIndex := 29, attributes := #[] }, { accessFlags := 26, nameIndex := 38, descriptorIndex := 39, attributes := #[] }, { accessFlags := 25, nameIndex := 121, descriptorIndex := 25, attributes := #[] }, { accessFlags := 25, nameIndex := 131, descriptorIndex := 25, attributes := #[] }, { accessFlags := 25, nameIndex := 137, descriptorIndex := 25, attributes := #[] }, { accessFlags := 25, nameIndex := 143, descriptorIndex := 25, attributes := #[] }, { accessFlags := 25, nameIndex := 53, descriptorIndex := 25, attributes := #[] }, { accessFlags := 25, nameIndex := 24, descriptorIndex := 25, attributes := #[] }, { accessFlags := 25, nameIndex := 162, descriptorIndex := 25, attributes := #[] }, { accessFlags := 25, nameIndex := 187, descriptorIndex := 25, attributes := #[] }, { accessFlags := 26, nameIndex := 48, descriptorIndex := 25, attributes := #[] }, { accessFlags := 25, nameIndex := 277, descriptorIndex := 25, attributes := #[] }, { accessFlags := 25, nameIndex := 280, descriptorIndex := 25, attributes := #[] }, { accessFlags := 25, nameIndex := 282, descriptorIndex := 25, attributes := #[] }, { accessFlags := 25, nameIndex := 284, descriptorIndex := 25, attributes := #[] }, { accessFlags := 25, nameIndex := 286, descriptorIndex := 25, attributes := #[] }, { accessFlags := 25, nameIndex := 288, descriptorIndex := 25, attributes := #[] }, { accessFlags := 25, nameIndex := 290, descriptorIndex := 25, attributes := #[] }, { accessFlags := 25, nameIndex := 292, descriptorIndex := 25, attributes := #[] }, { accessFlags := 26, nameIndex := 108, descriptorIndex := 109, attributes := #[] }, { accessFlags := 25, nameIndex := 294, descriptorIndex := 25, attributes := #[] }])
  fields := #[{ name := "U", type := (.object "jdk/internal/misc/Unsafe"), accessFlags := 24, slot := 0, constantValue := 0 }, { name := "BIG_ENDIAN", type := .boolean, accessFlags := 26, slot := 1, constantValue := 0 }, { name := "LOG2_ARRAY_BOOLEAN_INDEX_SCALE", type := .int, accessFlags := 25, slot := 2, constantValue := 0 }, { name := "LOG2_ARRAY_BYTE_INDEX_SCALE", type := .int, accessFlags := 25, slot := 3, constantValue := 0 }, { name := "LOG2_ARRAY_CHAR_INDEX_SCALE", type := .int, accessFlags := 25, slot := 4, constantValue := 0 }, { name := "LOG2_ARRAY_SHORT_INDEX_SCALE", type := .int, accessFlags := 25, slot := 5, constantValue := 0 }, { name := "LOG2_ARRAY_INT_INDEX_SCALE", type := .int, accessFlags := 25, slot := 6, constantValue := 0 }, { name := "LOG2_ARRAY_LONG_INDEX_SCALE", type := .int, accessFlags := 25, slot := 7, constantValue := 0 }, { name := "LOG2_ARRAY_FLOAT_INDEX_SCALE", type := .int, accessFlags := 25, slot := 8, constantValue := 0 }, { name := "LOG2_ARRAY_DOUBLE_INDEX_SCALE", type := .int, accessFlags := 25, slot := 9, constantValue := 0 }, { name := "LOG2_BYTE_BIT_SIZE", type := .int, accessFlags := 26, slot := 10, constantValue := 0 }, { name := "T_BOOLEAN", type := .int, accessFlags := 25, slot := 11, constantValue := 0 }, { name := "T_CHAR", type := .int, accessFlags := 25, slot := 12, constantValue := 0 }, { name := "T_FLOAT", type := .int, accessFlags := 25, slot := 13, constantValue := 0 }, { name := "T_DOUBLE", type := .int, accessFlags := 25, slot := 14, constantValue := 0 }, { name := "T_BYTE", type := .int, accessFlags := 25, slot := 15, constantValue := 0 }, { name := "T_SHORT", type := .int, accessFlags := 25, slot := 16, constantValue := 0 }, { name := "T_INT", type := .int, accessFlags := 25, slot := 17, constantValue := 0 }, { name := "T_LONG", type := .int, accessFlags := 25, slot := 18, constantValue := 0 }, { name := "JLA", type := (.object "jdk/internal/access/JavaLangAccess"), accessFlags := 26, slot := 19, constantValue := 0 }, { name := "SOFT_MAX_ARRAY_LENGTH", type := .int, accessFlags := 25, slot := 20, constantValue := 0 }]
  methods := #[k16m0]
  instanceTypes := #[]
  staticTypes := #[(.object "jdk/internal/misc/Unsafe"), .boolean, .int, .int, .int, .int, .int, .int, .int, .int, .int, .int, .int, .int, .int, .int, .int, .int, .int, (.object "jdk/internal/access/JavaLangAccess"), .int]
  resolved := Array.replicate 378 none
  statics := none }

def pool17 : Array CpInfo := pool [(1, u "java/lang/Cloneable"), (0, .class_ 1), (0, u "java/lang/Object"), (0, .class_ 3)] 3

/-- java/lang/Cloneable -/
def k17 : Class := { plain "java/lang/Cloneable" (some 0) with
  accessFlags := 1537
  interfaces := #[]
  cf := some (fileOf pool17 2 #[] #[] 1537 4 #[] #[])
  fields := #[]
  methods := #[]
  instanceTypes := #[]
  staticTypes := #[]
  resolved := Array.replicate 8 none
  statics := none }

/-- the primitive byte -/
def k18 : Class := { plain "byte" none with kind := .primitive 'B', accessFlags := 0x411 }
/-- [B -/
def k19 : Class := { plain "[B" (some 0) with kind := .array 18 .byte, interfaces := #[17, 2], accessFlags := 1041 }

/-- the primitive char -/
def k20 : Class := { plain "char" none with kind := .primitive 'C', accessFlags := 0x411 }
/-- [C -/
def k21 : Class := { plain "[C" (some 0) with kind := .array 20 .char, interfaces := #[17, 2], accessFlags := 1041 }

/-- the primitive int -/
def k22 : Class := { plain "int" none with kind := .primitive 'I', accessFlags := 0x411 }
/-- [I -/
def k23 : Class := { plain "[I" (some 0) with kind := .array 22 .int, interfaces := #[17, 2], accessFlags := 1041 }

def heap : Heap := #[{ cls := 7, slots := #[.long 0, .int 1, .null, .int 0, .null, .int 0, .int 0], vm := .statics 7 },
  { cls := 10, slots := #[.ref 3, .null, .null, .null, .null, .null, .null, .null, .null, .ref 6, .null, .null, .null, .null, .null, .ref 5, .ref 4, .null], vm := .statics 10 },
  { cls := 15, slots := #[.null, .null, .null], vm := .statics 15 },
  { cls := 10, slots := #[.null, .int 0, .int 0, .null, .null, .null], vm := .none },
  { cls := 10, slots := #[.null, .int 0, .int 0, .null, .null, .null], vm := .none },
  { cls := 10, slots := #[.null, .int 0, .int 0, .null, .null, .null], vm := .none },
  { cls := 10, slots := #[.null, .int 0, .int 0, .null, .null, .null], vm := .none }]
def classes : Array Class := #[k0, k1, k2, k3, k4, k5, k6, k7, k8, k9, k10, k11, k12, k13, k14, k15, k16, k17, k18, k19, k20, k21, k22, k23]
def interned : List (Array UInt16 × Addr) := []
def slotsUsed : Nat := 52
def theMethod : MethodId := ⟨1, 2⟩
def args0 : Array Value := #[.int 5, .int 5, .int 5, .int 5, .int 5]
def aboutOver (below : List Frame) : State where
  vm := { classes := classes, interned := interned.toArray }
  heap := heap
  slotsUsed := slotsUsed
  threads := #[{ frames := .invoking theMethod args0 :: below }]
def below0 : List Frame := [.native { method := ⟨0, 0⟩, args := #[] }]
def about1 : State := aboutOver below0
def p0 : Program := .bare "" "" ""
def e0 : Env := launch0.env 0 0 0
theorem w_frames : about1.frames = Frame.invoking theMethod args0 :: below0 := rfl
set_option maxRecDepth 65536 in
theorem w_args : argsFit about1.vm theMethod args0 = true := by decide +kernel
set_option maxRecDepth 65536 in
theorem w_heap : heapFits about1 = true := by decide +kernel
set_option maxRecDepth 65536 in
theorem w_runnable : about1.curStatus? = some .runnable := by decide +kernel
set_option maxRecDepth 65536 in
theorem w_alone : about1.alone = true := by decide +kernel
set_option maxRecDepth 65536 in
theorem w_named : about1.methodNamed? x = some theMethod := by decide +kernel
set_option maxRecDepth 65536 in
theorem w_hears : about1.hears theMethod below0 = true := by decide +kernel
set_option maxRecDepth 65536 in
theorem w_ripe : about1.ripe theMethod args0 below0 = true := by decide +kernel
theorem w_running : about1.status = .running := rfl
set_option maxRecDepth 65536 in
theorem w_room : about1.hasRoom e0.platform room_1 = true :=
  launch0.hasRoom_least _ room_1 (by decide +kernel) (by decide +kernel) (by decide +kernel) (by decide +kernel) (by decide +kernel) (by decide +kernel)
theorem allAtoms_all (ts : List Jvm.Cond) (a : Array Jvm.Value) (st : Jvm.State) : (allAtoms ts).before a st = ts.all (fun c => c.before a st) := by
  induction ts with
  | nil => rfl
  | cons c t ih =>
    show (Jvm.Cond.and c (allAtoms t)).before a st = _
    rw [Jvm.Cond.before_and, ih, List.all_cons]
def words1 : List Jvm.Cond := Jvm.Cond.code x code maxLocals ret :: tables_1
/-- a 'code' word, met by the world's own term for the bytes: nothing is compared byte by byte -/
theorem code_word {y : MethodName} {bytes : ByteArray} {mx : Nat} {rt : Option FieldType} {a : Array Value} {s : State} {m : MethodId} {meth : Method} {c : Code} (h1 : s.methodNamed? y = some m) (h2 : s.vm.method? m = some meth) (h3 : meth.code = some c) (h4 : c.code = bytes)
    (h5 : (c.maxLocals == mx && c.exceptionTable.isEmpty && decide (c.maxStack ≤ mostOperands) && decide (meth.sig.returnType = rt) && !meth.locks && decide (parseMethodDescriptor y.desc = some meth.sig)) = true) : (Jvm.Cond.code y bytes mx rt).before a s = true := by
  simp only [Bool.and_eq_true, beq_iff_eq, Bool.not_eq_true', decide_eq_true_eq] at h5
  obtain ⟨⟨⟨⟨⟨g1, g2⟩, g3⟩, g4⟩, g5⟩, g6⟩ := h5
  simp [Cond.before, Cond.holds, Cond.value, h1, h2, h3, h4, g1, g2, g3, g4, g5, g6]
def isCode : Jvm.Cond → Bool
  | .code _ _ _ _ => true
  | _ => false
theorem all_split {L : List Jvm.Cond} {P : Jvm.Cond → Bool} (h1 : L.all (fun c => isCode c || P c) = true) (h2 : ∀ c ∈ L.filter isCode, P c = true) : L.all P = true := by
  refine List.all_eq_true.mpr fun c hc => ?_
  have h := List.all_eq_true.mp h1 c hc
  rcases Bool.eq_false_or_eq_true (isCode c) with hi | hi
  · exact h2 c (List.mem_filter.mpr ⟨hc, hi⟩)
  · simpa [hi] using h
set_option maxRecDepth 65536 in
theorem w_c0 : (Jvm.Cond.code x code maxLocals ret).before args0 about1 = true := code_word (m := ⟨1, 2⟩) (meth := k1m2) (c := k1c2) (by decide +kernel) rfl rfl rfl (by decide +kernel)
set_option maxRecDepth 65536 in
theorem w_c1 : (Jvm.Cond.code ({ cls := "java/lang/String", name := "<init>", desc := "([C)V" } : Jvm.MethodName) jdk_42_method_3_code (2 : Nat) (Option.none : Option Jvm.ClassFile.FieldType)).before args0 about1 = true := code_word (m := ⟨7, 1⟩) (meth := k7m1) (c := k7c1) (by decide +kernel) rfl rfl rfl (by decide +kernel)
set_option maxRecDepth 65536 in
theorem w_c2 : (Jvm.Cond.code ({ cls := "java/lang/String", name := "<init>", desc := "([CIILjava/lang/Void;)V" } : Jvm.MethodName) jdk_42_method_149_code (6 : Nat) (Option.none : Option Jvm.ClassFile.FieldType)).before args0 about1 = true := code_word (m := ⟨7, 3⟩) (meth := k7m3) (c := k7c3) (by decide +kernel) rfl rfl rfl (by decide +kernel)
set_option maxRecDepth 65536 in
theorem w_c3 : (Jvm.Cond.code ({ cls := "java/lang/Object", name := "<init>", desc := "()V" } : Jvm.MethodName) object_method_1_code (1 : Nat) (Option.none : Option Jvm.ClassFile.FieldType)).before args0 about1 = true := code_word (m := ⟨0, 0⟩) (meth := k0m0) (c := k0c0) (by decide +kernel) rfl rfl rfl (by decide +kernel)
set_option maxRecDepth 65536 in
theorem w_c4 : (Jvm.Cond.code ({ cls := "java/lang/StringUTF16", name := "compress", desc := "([CII)[B" } : Jvm.MethodName) jdk_52_method_16_code (6 : Nat) (Option.some (Jvm.ClassFile.FieldType.array Jvm.ClassFile.FieldType.byte))).before args0 about1 = true := code_word (m := ⟨8, 2⟩) (meth := k8m2) (c := k8c2) (by decide +kernel) rfl rfl rfl (by decide +kernel)
set_option maxRecDepth 65536 in
theorem w_c5 : (Jvm.Cond.code ({ cls := "java/lang/StringUTF16", name := "compress", desc := "([CI[BII)I" } : Jvm.MethodName) jdk_52_method_21_code (7 : Nat) (Option.some Jvm.ClassFile.FieldType.int)).before args0 about1 = true := code_word (m := ⟨8, 3⟩) (meth := k8m3) (c := k8c3) (by decide +kernel) rfl rfl rfl (by decide +kernel)
set_option maxRecDepth 65536 in
theorem w_c6 : (Jvm.Cond.code ({ cls := "java/lang/StringUTF16", name := "coderFromArrayLen", desc := "([BI)B" } : Jvm.MethodName) jdk_52_method_15_code (2 : Nat) (Option.some Jvm.ClassFile.FieldType.byte)).before args0 about1 = true := code_word (m := ⟨8, 1⟩) (meth := k8m1) (c := k8c1) (by decide +kernel) rfl rfl rfl (by decide +kernel)
set_option maxRecDepth 65536 in
theorem w_c7 : (Jvm.Cond.code ({ cls := "com/example/anteroom/anteroom/rules/PlaceFindingPinLaw", name := "pick", desc := "(I)Lcom/example/anteroom/anteroom/rules/Rule;" } : Jvm.MethodName) method_2_code (2 : Nat) (Option.some (Jvm.ClassFile.FieldType.object "com/example/anteroom/anteroom/rules/Rule"))).before args0 about1 = true := code_word (m := ⟨1, 1⟩) (meth := k1m1) (c := k1c1) (by decide +kernel) rfl rfl rfl (by decide +kernel)
set_option maxRecDepth 65536 in
theorem w_c8 : (Jvm.Cond.code ({ cls := "com/example/anteroom/anteroom/rules/Place", name := "<init>", desc := "(Ljava/lang/String;II)V" } : Jvm.MethodName) prog_21_method_1_code (4 : Nat) (Option.none : Option Jvm.ClassFile.FieldType)).before args0 about1 = true := code_word (m := ⟨12, 0⟩) (meth := k12m0) (c := k12c0) (by decide +kernel) rfl rfl rfl (by decide +kernel)
set_option maxRecDepth 65536 in
theorem w_c9 : (Jvm.Cond.code ({ cls := "java/lang/Record", name := "<init>", desc := "()V" } : Jvm.MethodName) jdk_30_method_1_code (1 : Nat) (Option.none : Option Jvm.ClassFile.FieldType)).before args0 about1 = true := code_word (m := ⟨11, 0⟩) (meth := k11m0) (c := k11c0) (by decide +kernel) rfl rfl rfl (by decide +kernel)
set_option maxRecDepth 65536 in
theorem w_c10 : (Jvm.Cond.code ({ cls := "com/example/anteroom/anteroom/rules/Place", name := "finding", desc := "(Lcom/example/anteroom/anteroom/rules/Rule;Ljava/lang/String;)Lcom/example/anteroom/anteroom/rules/Finding;" } : Jvm.MethodName) prog_21_method_2_code (3 : Nat) (Option.some (Jvm.ClassFile.FieldType.object "com/example/anteroom/anteroom/rules/Finding"))).before args0 about1 = true := code_word (m := ⟨12, 1⟩) (meth := k12m1) (c := k12c1) (by decide +kernel) rfl rfl rfl (by decide +kernel)
set_option maxRecDepth 65536 in
theorem w_c11 : (Jvm.Cond.code ({ cls := "com/example/anteroom/anteroom/rules/Finding", name := "<init>", desc := "(Ljava/lang/String;IILcom/example/anteroom/anteroom/rules/Rule;Ljava/lang/String;)V" } : Jvm.MethodName) prog_20_method_1_code (6 : Nat) (Option.none : Option Jvm.ClassFile.FieldType)).before args0 about1 = true := code_word (m := ⟨13, 0⟩) (meth := k13m0) (c := k13c0) (by decide +kernel) rfl rfl rfl (by decide +kernel)
set_option maxRecDepth 65536 in
theorem w_c12 : (Jvm.Cond.code ({ cls := "com/example/anteroom/anteroom/rules/Finding", name := "path", desc := "()Ljava/lang/String;" } : Jvm.MethodName) prog_20_method_7_code (1 : Nat) (Option.some (Jvm.ClassFile.FieldType.object "java/lang/String"))).before args0 about1 = true := code_word (m := ⟨13, 1⟩) (meth := k13m1) (c := k13c1) (by decide +kernel) rfl rfl rfl (by decide +kernel)
set_option maxRecDepth 65536 in
theorem w_c13 : (Jvm.Cond.code ({ cls := "java/lang/String", name := "equals", desc := "(Ljava/lang/Object;)Z" } : Jvm.MethodName) jdk_42_method_66_code (3 : Nat) (Option.some Jvm.ClassFile.FieldType.boolean)).before args0 about1 = true := code_word (m := ⟨7, 2⟩) (meth := k7m2) (c := k7c2) (by decide +kernel) rfl rfl rfl (by decide +kernel)
set_option maxRecDepth 65536 in
theorem w_c14 : (Jvm.Cond.code ({ cls := "com/example/anteroom/anteroom/rules/Finding", name := "line", desc := "()I" } : Jvm.MethodName) prog_20_method_8_code (1 : Nat) (Option.some Jvm.ClassFile.FieldType.int)).before args0 about1 = true := code_word (m := ⟨13, 2⟩) (meth := k13m2) (c := k13c2) (by decide +kernel) rfl rfl rfl (by decide +kernel)
set_option maxRecDepth 65536 in
theorem w_c15 : (Jvm.Cond.code ({ cls := "com/example/anteroom/anteroom/rules/Finding", name := "column", desc := "()I" } : Jvm.MethodName) prog_20_method_9_code (1 : Nat) (Option.some Jvm.ClassFile.FieldType.int)).before args0 about1 = true := code_word (m := ⟨13, 3⟩) (meth := k13m3) (c := k13c3) (by decide +kernel) rfl rfl rfl (by decide +kernel)
set_option maxRecDepth 65536 in
theorem w_c16 : (Jvm.Cond.code ({ cls := "com/example/anteroom/anteroom/rules/Finding", name := "rule", desc := "()Lcom/example/anteroom/anteroom/rules/Rule;" } : Jvm.MethodName) prog_20_method_10_code (1 : Nat) (Option.some (Jvm.ClassFile.FieldType.object "com/example/anteroom/anteroom/rules/Rule"))).before args0 about1 = true := code_word (m := ⟨13, 4⟩) (meth := k13m4) (c := k13c4) (by decide +kernel) rfl rfl rfl (by decide +kernel)
set_option maxRecDepth 65536 in
theorem w_c17 : (Jvm.Cond.code ({ cls := "com/example/anteroom/anteroom/rules/Finding", name := "message", desc := "()Ljava/lang/String;" } : Jvm.MethodName) prog_20_method_11_code (1 : Nat) (Option.some (Jvm.ClassFile.FieldType.object "java/lang/String"))).before args0 about1 = true := code_word (m := ⟨13, 5⟩) (meth := k13m5) (c := k13c5) (by decide +kernel) rfl rfl rfl (by decide +kernel)
def codes1 : List Jvm.Cond := [Jvm.Cond.code x code maxLocals ret, Jvm.Cond.code ({ cls := "java/lang/String", name := "<init>", desc := "([C)V" } : Jvm.MethodName) jdk_42_method_3_code (2 : Nat) (Option.none : Option Jvm.ClassFile.FieldType), Jvm.Cond.code ({ cls := "java/lang/String", name := "<init>", desc := "([CIILjava/lang/Void;)V" } : Jvm.MethodName) jdk_42_method_149_code (6 : Nat) (Option.none : Option Jvm.ClassFile.FieldType), Jvm.Cond.code ({ cls := "java/lang/Object", name := "<init>", desc := "()V" } : Jvm.MethodName) object_method_1_code (1 : Nat) (Option.none : Option Jvm.ClassFile.FieldType), Jvm.Cond.code ({ cls := "java/lang/StringUTF16", name := "compress", desc := "([CII)[B" } : Jvm.MethodName) jdk_52_method_16_code (6 : Nat) (Option.some (Jvm.ClassFile.FieldType.array Jvm.ClassFile.FieldType.byte)), Jvm.Cond.code ({ cls := "java/lang/StringUTF16", name := "compress", desc := "([CI[BII)I" } : Jvm.MethodName) jdk_52_method_21_code (7 : Nat) (Option.some Jvm.ClassFile.FieldType.int), Jvm.Cond.code ({ cls := "java/lang/StringUTF16", name := "coderFromArrayLen", desc := "([BI)B" } : Jvm.MethodName) jdk_52_method_15_code (2 : Nat) (Option.some Jvm.ClassFile.FieldType.byte), Jvm.Cond.code ({ cls := "com/example/anteroom/anteroom/rules/PlaceFindingPinLaw", name := "pick", desc := "(I)Lcom/example/anteroom/anteroom/rules/Rule;" } : Jvm.MethodName) method_2_code (2 : Nat) (Option.some (Jvm.ClassFile.FieldType.object "com/example/anteroom/anteroom/rules/Rule")), Jvm.Cond.code ({ cls := "com/example/anteroom/anteroom/rules/Place", name := "<init>", desc := "(Ljava/lang/String;II)V" } : Jvm.MethodName) prog_21_method_1_code (4 : Nat) (Option.none : Option Jvm.ClassFile.FieldType), Jvm.Cond.code ({ cls := "java/lang/Record", name := "<init>", desc := "()V" } : Jvm.MethodName) jdk_30_method_1_code (1 : Nat) (Option.none : Option Jvm.ClassFile.FieldType), Jvm.Cond.code ({ cls := "com/example/anteroom/anteroom/rules/Place", name := "finding", desc := "(Lcom/example/anteroom/anteroom/rules/Rule;Ljava/lang/String;)Lcom/example/anteroom/anteroom/rules/Finding;" } : Jvm.MethodName) prog_21_method_2_code (3 : Nat) (Option.some (Jvm.ClassFile.FieldType.object "com/example/anteroom/anteroom/rules/Finding")), Jvm.Cond.code ({ cls := "com/example/anteroom/anteroom/rules/Finding", name := "<init>", desc := "(Ljava/lang/String;IILcom/example/anteroom/anteroom/rules/Rule;Ljava/lang/String;)V" } : Jvm.MethodName) prog_20_method_1_code (6 : Nat) (Option.none : Option Jvm.ClassFile.FieldType), Jvm.Cond.code ({ cls := "com/example/anteroom/anteroom/rules/Finding", name := "path", desc := "()Ljava/lang/String;" } : Jvm.MethodName) prog_20_method_7_code (1 : Nat) (Option.some (Jvm.ClassFile.FieldType.object "java/lang/String")), Jvm.Cond.code ({ cls := "java/lang/String", name := "equals", desc := "(Ljava/lang/Object;)Z" } : Jvm.MethodName) jdk_42_method_66_code (3 : Nat) (Option.some Jvm.ClassFile.FieldType.boolean), Jvm.Cond.code ({ cls := "com/example/anteroom/anteroom/rules/Finding", name := "line", desc := "()I" } : Jvm.MethodName) prog_20_method_8_code (1 : Nat) (Option.some Jvm.ClassFile.FieldType.int), Jvm.Cond.code ({ cls := "com/example/anteroom/anteroom/rules/Finding", name := "column", desc := "()I" } : Jvm.MethodName) prog_20_method_9_code (1 : Nat) (Option.some Jvm.ClassFile.FieldType.int), Jvm.Cond.code ({ cls := "com/example/anteroom/anteroom/rules/Finding", name := "rule", desc := "()Lcom/example/anteroom/anteroom/rules/Rule;" } : Jvm.MethodName) prog_20_method_10_code (1 : Nat) (Option.some (Jvm.ClassFile.FieldType.object "com/example/anteroom/anteroom/rules/Rule")), Jvm.Cond.code ({ cls := "com/example/anteroom/anteroom/rules/Finding", name := "message", desc := "()Ljava/lang/String;" } : Jvm.MethodName) prog_20_method_11_code (1 : Nat) (Option.some (Jvm.ClassFile.FieldType.object "java/lang/String"))]
set_option maxRecDepth 65536 in
theorem codes_eq : words1.filter isCode = codes1 := rfl
theorem w_codes : ∀ c ∈ words1.filter isCode, c.before args0 about1 = true := by
  rw [codes_eq]
  intro c hc
  simp only [codes1, List.mem_cons, List.not_mem_nil, or_false] at hc
  rcases hc with rfl | rfl | rfl | rfl | rfl | rfl | rfl | rfl | rfl | rfl | rfl | rfl | rfl | rfl | rfl | rfl | rfl | rfl
  · exact w_c0
  · exact w_c1
  · exact w_c2
  · exact w_c3
  · exact w_c4
  · exact w_c5
  · exact w_c6
  · exact w_c7
  · exact w_c8
  · exact w_c9
  · exact w_c10
  · exact w_c11
  · exact w_c12
  · exact w_c13
  · exact w_c14
  · exact w_c15
  · exact w_c16
  · exact w_c17
set_option maxRecDepth 65536 in
theorem w_t1 : (words1.take 24).all (fun c => isCode c || c.before args0 about1) = true := by decide +kernel
set_option maxRecDepth 65536 in
theorem w_t2 : ((words1.drop 24).take 24).all (fun c => isCode c || c.before args0 about1) = true := by decide +kernel
set_option maxRecDepth 65536 in
theorem w_t3 : (((words1.drop 24).drop 24).take 24).all (fun c => isCode c || c.before args0 about1) = true := by decide +kernel
set_option maxRecDepth 65536 in
theorem w_t4 : ((((words1.drop 24).drop 24).drop 24).take 24).all (fun c => isCode c || c.before args0 about1) = true := by decide +kernel
set_option maxRecDepth 65536 in
theorem w_t5 : ((((words1.drop 24).drop 24).drop 24).drop 24).all (fun c => isCode c || c.before args0 about1) = true := by decide +kernel
theorem w_tables : (allAtoms (Jvm.Cond.code x code maxLocals ret :: tables_1)).before args0 about1 = true := by
  rw [allAtoms_all]
  show words1.all (fun c => c.before args0 about1) = true
  refine all_split ?_ w_codes
  rw [← List.take_append_drop 24 words1, List.all_append, w_t1, ← List.take_append_drop 24 (words1.drop 24), List.all_append, w_t2, ← List.take_append_drop 24 ((words1.drop 24).drop 24), List.all_append, w_t3, ← List.take_append_drop 24 (((words1.drop 24).drop 24).drop 24), List.all_append, w_t4, w_t5]
  rfl
set_option maxRecDepth 65536 in
theorem w_rest : rest_1_c.before args0 about1 = true := by decide +kernel
set_option maxRecDepth 65536 in
theorem w_case : (Jvm.Cond.and given_1 narrow_1).before args0 about1 = true := by decide +kernel
theorem w_applies : (headSpec (Jvm.Cond.code x code maxLocals ret :: tables_1) room_1).applies x e0.platform about1 = true :=
  (Spec.applies_iff w_frames).mpr ⟨w_running, w_runnable, w_alone, w_named, w_hears, w_ripe, w_room, w_tables⟩
theorem atStart : AtStart classFile x code maxLocals ret World_1 tables_1 room_1 Calls_1 rest_1 Pre_1 launch0 p0 e0 about1 theMethod args0 below0 :=
  ⟨lists_1, trivial, launch0.admits_env _ _ _, launch0.least_env, fairChoices_fair.cas, fairChoices_fair.clock, w_frames, w_args, w_heap, w_applies, trivial, w_rest, w_case⟩
end start1
theorem witness_1 : WitnessClaimed_1 := ⟨start1.p0, start1.e0, start1.about1, start1.theMethod, start1.args0, start1.below0, start1.atStart⟩
end Jvm.Pilot.@@N@@

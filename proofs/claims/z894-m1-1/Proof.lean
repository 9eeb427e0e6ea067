import JvmDerived
import JvmDerived.Pilot.@@N@@Statement
import JvmDerived.Pilot.@@N@@Code
set_option linter.unusedVariables false
set_option linter.unusedSimpArgs false
@@BLOCK:NumsL.lean.txt@@
/- laws to paste: Road.backV (cut by pick.py; bodies as the Statement names them) -/
namespace Jvm.Pilot.@@N@@
namespace StrChars
open Jvm Sem ClassFile Op Lib Jvm.Stand Jvm.Free.XT Jvm.Free.ALB Jvm.Free.JM Jvm.Free
open Jvm.Lib.Cold (StaticIs)
/-- a char array whose places are chars -/
def Ch (a : Addr) (A : Cell) (U : State) : Prop := Arr .char a A U ∧ Typed .char A
theorem Ch.mv {a : Addr} {A : Cell} {U U' : State} (h : Ch a A U) (hal : U.vm.Alike U'.vm) (hh : U'.heap = U.heap) : Ch a A U' := ⟨h.1.mv hal hh, h.2⟩
theorem Ch.keep {a : Addr} {A : Cell} {U U' : State} (h : Ch a A U) (hal : U.vm.Alike U'.vm) (hk : U'.heap[a]? = some A) : Ch a A U' := ⟨h.1.keep hal hk, h.2⟩
/-- what place i of a char[]'s cell holds -/
def cv (A : Cell) (i : Nat) : Int32 := match A.slots[i]? with | some (.int x) => x | _ => 0
theorem Ch.get {a : Addr} {A : Cell} {U : State} (h : Ch a A U) {i : Nat} (hi : i < A.slots.size) : A.slots[i]? = some (.int (cv A i)) := by
  have e := Array.getElem?_eq_getElem hi
  have f := h.2 i _ e
  unfold cv; rw [e]
  generalize A.slots[i] = v at f
  cases v <;> simp [fits] at f ⊢
/-- the byte that i2b leaves of a char -/
def lo8 (x : Int32) : Int32 := x.toInt8.toInt32
theorem fits_lo8 (y : Int32) : fits .byte (.int (lo8 y)) = true := by
  have h1 := y.toInt8.le_toInt
  have h2 := y.toInt8.toInt_lt
  simp only [lo8, fits, Bool.and_eq_true, decide_eq_true_eq, Int32.le_iff_toInt_le, Int8.toInt_toInt32, show (-128 : Int32).toInt = -128 from by decide, show (127 : Int32).toInt = 127 from by decide]
  omega
/-- A' is A but that each place j of lo .. hi - 1 holds f j -/
def Laid (A A' : Cell) (lo hi : Nat) (f : Nat → Value) : Prop := A'.cls = A.cls ∧ A'.vm = A.vm ∧ A'.slots.size = A.slots.size ∧ ∀ i, A'.slots[i]? = if lo ≤ i ∧ i < hi then some (f i) else A.slots[i]?
theorem Laid.zero (A : Cell) (lo : Nat) (f : Nat → Value) : Laid A A lo (lo + 0) f := ⟨rfl, rfl, rfl, fun i => by rw [if_neg (by omega)]⟩
theorem Laid.step {A Ak : Cell} {lo k : Nat} {f : Nat → Value} {v : Value} (h : Laid A Ak lo k f) (hlo : lo ≤ k) (hk : k < Ak.slots.size) (hv : v = f k) : Laid A (Ak.setSlot k v) lo (k + 1) f := by
  refine ⟨h.1, h.2.1, by simpa [Cell.setSlot] using h.2.2.1, fun i => ?_⟩
  by_cases e : k = i
  · subst e; rw [Cell.slots_setSlot_self v hk, if_pos (by omega), hv]
  · rw [Cell.slots_setSlot_ne v e, h.2.2.2 i]
    by_cases q : lo ≤ i ∧ i < k
    · rw [if_pos q, if_pos (by omega)]
    · rw [if_neg q, if_neg (by omega)]
def U16 : String := "java/lang/StringUTF16"
namespace Cmp5
def yN : MethodName := ⟨"java/lang/StringUTF16", "compress", "([CI[BII)I"⟩
abbrev yB : ByteArray := jdk_52_method_21_code
theorem d0 : decode yB 0 = .ok (.iconst 0, 1) := by decide +kernel
theorem d1 : decode yB 1 = .ok (.istore 5, 2) := by decide +kernel
theorem d3 : decode yB 3 = .ok (.iload 5, 2) := by decide +kernel
theorem d5 : decode yB 5 = .ok (.iload 4, 2) := by decide +kernel
theorem d7 : decode yB 7 = .ok (.if_icmp (.ge) 37, 3) := by decide +kernel
theorem d10 : decode yB 10 = .ok (.aload_n 0, 1) := by decide +kernel
theorem d11 : decode yB 11 = .ok (.iload_n 1, 1) := by decide +kernel
theorem d12 : decode yB 12 = .ok (.caload, 1) := by decide +kernel
theorem d13 : decode yB 13 = .ok (.istore 6, 2) := by decide +kernel
theorem d15 : decode yB 15 = .ok (.iload 6, 2) := by decide +kernel
theorem d17 : decode yB 17 = .ok (.sipush 255, 3) := by decide +kernel
theorem d20 : decode yB 20 = .ok (.if_icmp (.le) 6, 3) := by decide +kernel
theorem d26 : decode yB 26 = .ok (.aload_n 2, 1) := by decide +kernel
theorem d27 : decode yB 27 = .ok (.iload_n 3, 1) := by decide +kernel
theorem d28 : decode yB 28 = .ok (.iload 6, 2) := by decide +kernel
theorem d30 : decode yB 30 = .ok (.i2b, 1) := by decide +kernel
theorem d31 : decode yB 31 = .ok (.bastore, 1) := by decide +kernel
theorem d32 : decode yB 32 = .ok (.iinc 1 1, 3) := by decide +kernel
theorem d35 : decode yB 35 = .ok (.iinc 3 1, 3) := by decide +kernel
theorem d38 : decode yB 38 = .ok (.iinc 5 1, 3) := by decide +kernel
theorem d41 : decode yB 41 = .ok (.goto (-38), 3) := by decide +kernel
theorem d44 : decode yB 44 = .ok (.iload 4, 2) := by decide +kernel
theorem d46 : decode yB 46 = .ok (.ireturn, 1) := by decide +kernel
def site : List Cond := []
def tab : Cond := tabOf yN yB 7 (some .int) site
def P (b : Addr) (A : Cell) (d : Addr) (B : Cell) (o q len : Nat) (args : Array Value) (s : State) : Prop := args = #[.ref b, .int (Int32.ofNat o), .ref d, .int (Int32.ofNat q), .int (Int32.ofNat len)] ∧ Ch b A s ∧ Arr .byte d B s ∧ b ≠ d ∧ o + len ≤ A.slots.size ∧ q + len ≤ B.slots.size ∧ ∀ i, i < len → ¬ 255 < cv A (o + i)
def E (b : Addr) (A : Cell) (d : Addr) (B : Cell) (o q len : Nat) (r : Option Value) (s u : State) : Prop := r = some (.int (Int32.ofNat len)) ∧ ∃ B', Put d B' s u ∧ Laid B B' q (q + len) (fun j => Value.int (lo8 (cv A (o + (j - q)))))
/-- no char of the range above 255: len; the places written hold each char's low byte -/
theorem law (l : Launch) (b : Addr) (A : Cell) (d : Addr) (B : Cell) (o q len : Nat) : Law l yN 5 5 0 0 yB 7 (some .int) site (P b A d B o q len) (E b A d B o q len) (copyLocs d q len) 0 0 := by
  refine Law.of_walk (plainFor_of_name (by decide +kernel)) (by decide +kernel) (by decide +kernel) (by decide) (fun _ _ h => by rw [h.1]; rfl) (fun _ U U' hal hh h => ⟨h.1, h.2.1.mv hal hh, h.2.2.1.mv hal hh, h.2.2.2⟩) (fun r U U' V V' h1 hal h2 h => ⟨h.1, h.2.elim fun B' q => ⟨B', q.1.mv h1 h2, q.2⟩⟩) ?_
  intro p e s m args below meth c s₁ X0 hexec hbytes hml hret hlk hnm hown hh0 W hP
  obtain ⟨rfl, hA, hB, hne, l1, l2, hp⟩ := hP
  have c1 : Steps p.tables e below (s₁.setTop (entryFrame m #[.ref b, .int (Int32.ofNat o), .ref d, .int (Int32.ofNat q), .int (Int32.ofNat len)] 7)) (s₁.setTop (mkF m 0 #[.val (.ref b), .val (.int (Int32.ofNat o)), .val (.ref d), .val (.int (Int32.ofNat q)), .val (.int (Int32.ofNat len)), .unset, .unset] [])) := entry rfl
  have hA0 := hA.1.mv X0.warmed.alike hh0
  have hB0 := hB.mv X0.warmed.alike hh0
  have a31 := hA.1.2.2.2
  have c2 : Steps p.tables e below (s₁.setTop (entryFrame m #[.ref b, .int (Int32.ofNat o), .ref d, .int (Int32.ofNat q), .int (Int32.ofNat len)] 7)) (s₁.setTop (mkF m 3 #[.val (.ref b), .val (.int (Int32.ofNat o)), .val (.ref d), .val (.int (Int32.ofNat q)), .val (.int (Int32.ofNat len)), .val (.int 0), .unset] [])) := c1.trans (by
    refine iconstV X0.here hexec rfl 0 (hb hbytes d0) (by decide) ?_
    refine XS.istore X0.here hexec rfl (hb hbytes d1) rfl rfl ?_
    exact Steps.refl _)
  have loop : ∀ (r i : Nat), i + r = len → ∀ (z : Slot), (z = .unset ∨ ∃ w, z = .val w ∧ w.category = 1) → ∀ (Tl : State) (Bk : Cell), Stand p l e { frames := 0, locals := 0, cells := 0, slots := 0 } s m #[.ref b, .int (Int32.ofNat o), .ref d, .int (Int32.ofNat q), .int (Int32.ofNat len)] below meth c Tl ([] ++ copyLocs d q i) 0 0 → Put d Bk s₁ Tl → Laid B Bk q (q + i) (fun j => Value.int (lo8 (cv A (o + (j - q))))) →
      Steps p.tables e below (s₁.setTop (entryFrame m #[.ref b, .int (Int32.ofNat o), .ref d, .int (Int32.ofNat q), .int (Int32.ofNat len)] 7)) (Tl.setTop (mkF m 3 #[.val (.ref b), .val (.int (Int32.ofNat (o + i))), .val (.ref d), .val (.int (Int32.ofNat (q + i))), .val (.int (Int32.ofNat len)), .val (.int (Int32.ofNat i)), z] [])) → ∃ (T' : State) (B' : Cell) (z' : Slot), Stand p l e { frames := 0, locals := 0, cells := 0, slots := 0 } s m #[.ref b, .int (Int32.ofNat o), .ref d, .int (Int32.ofNat q), .int (Int32.ofNat len)] below meth c T' ([] ++ copyLocs d q len) 0 0 ∧ Put d B' s₁ T' ∧ Laid B B' q (q + len) (fun j => Value.int (lo8 (cv A (o + (j - q))))) ∧
      Steps p.tables e below (s₁.setTop (entryFrame m #[.ref b, .int (Int32.ofNat o), .ref d, .int (Int32.ofNat q), .int (Int32.ofNat len)] 7)) (T'.setTop (mkF m 3 #[.val (.ref b), .val (.int (Int32.ofNat (o + len))), .val (.ref d), .val (.int (Int32.ofNat (q + len))), .val (.int (Int32.ofNat len)), .val (.int (Int32.ofNat len)), z'] [])) := by
    intro r
    induction r with
    | zero =>
      intro i hi z hz Tl Bk Xl pl fl cl
      have hil : i = len := by omega
      rw [hil] at Xl fl cl
      exact ⟨Tl, Bk, z, Xl, pl, fl, cl⟩
    | succ r ih =>
      intro i hi z hz Tl Bk Xl pl fl cl
      have all := X0.warmed.alike.symm.trans Xl.warmed.alike
      have hAl := hA0.keep all (pl.other hne hA0.1)
      have hBk := hB0.like all pl.1 fl.1 fl.2.1 fl.2.2.1
      have hlt : q + i < Bk.slots.size := by rw [fl.2.2.1]; omega
      have c3 : Steps p.tables e below (s₁.setTop (entryFrame m #[.ref b, .int (Int32.ofNat o), .ref d, .int (Int32.ofNat q), .int (Int32.ofNat len)] 7)) (Tl.setTop (mkF m 12 #[.val (.ref b), .val (.int (Int32.ofNat (o + i))), .val (.ref d), .val (.int (Int32.ofNat (q + i))), .val (.int (Int32.ofNat len)), .val (.int (Int32.ofNat i)), z] [.int (Int32.ofNat (o + i)), .ref b])) := cl.trans (by
        refine XS.iload Xl.here hexec rfl (hb hbytes d3) rfl ?_
        refine XS.iload Xl.here hexec rfl (hb hbytes d5) rfl ?_
        refine XS.icmpNo Xl.here hexec rfl (hb hbytes d7) rfl (ii_ge_f (lt32 (by omega) (by omega))) ?_
        refine XS.aloadN Xl.here hexec rfl (hb hbytes d10) rfl rfl ?_
        refine XS.iloadN Xl.here hexec rfl (hb hbytes d11) rfl ?_
        exact Steps.refl _)
      have c4 : Steps p.tables e below (s₁.setTop (entryFrame m #[.ref b, .int (Int32.ofNat o), .ref d, .int (Int32.ofNat q), .int (Int32.ofNat len)] 7)) (Tl.setTop (mkF m 13 #[.val (.ref b), .val (.int (Int32.ofNat (o + i))), .val (.ref d), .val (.int (Int32.ofNat (q + i))), .val (.int (Int32.ofNat len)), .val (.int (Int32.ofNat i)), z] [.int (cv A (o + i))])) := c3.trans (by
        refine Xl.aget hexec hAl rfl (hA.get (i := o + i) (by omega)) rfl rfl (hb hbytes d12) ?_
        exact Steps.refl _)
      have c5 : Steps p.tables e below (s₁.setTop (entryFrame m #[.ref b, .int (Int32.ofNat o), .ref d, .int (Int32.ofNat q), .int (Int32.ofNat len)] 7)) (Tl.setTop (mkF m 15 #[.val (.ref b), .val (.int (Int32.ofNat (o + i))), .val (.ref d), .val (.int (Int32.ofNat (q + i))), .val (.int (Int32.ofNat len)), .val (.int (Int32.ofNat i)), .val (.int (cv A (o + i)))] [])) := c4.trans (by
        refine XS.istoreS Xl.here hexec rfl (hb hbytes d13) rfl rfl hz ?_
        exact Steps.refl _)
      have c6 : Steps p.tables e below (s₁.setTop (entryFrame m #[.ref b, .int (Int32.ofNat o), .ref d, .int (Int32.ofNat q), .int (Int32.ofNat len)] 7)) (Tl.setTop (mkF m 31 #[.val (.ref b), .val (.int (Int32.ofNat (o + i))), .val (.ref d), .val (.int (Int32.ofNat (q + i))), .val (.int (Int32.ofNat len)), .val (.int (Int32.ofNat i)), .val (.int (cv A (o + i)))] [.int (lo8 (cv A (o + i))), .int (Int32.ofNat (q + i)), .ref d])) := c5.trans (by
        refine XS.iload Xl.here hexec rfl (hb hbytes d15) rfl ?_
        refine sipushV Xl.here hexec rfl 255 (hb hbytes d17) (by decide) ?_
        refine XS.icmpYes Xl.here hexec rfl (pc0 := 20) rfl (hb hbytes d20) rfl (ii_le_t (hp i (by omega))) (by decide) rfl ?_
        refine XS.aloadN Xl.here hexec rfl (hb hbytes d26) rfl rfl ?_
        refine XS.iloadN Xl.here hexec rfl (hb hbytes d27) rfl ?_
        refine XS.iload Xl.here hexec rfl (hb hbytes d28) rfl ?_
        refine i2b Xl.here hexec rfl (hb hbytes d30) rfl ?_
        exact Steps.refl _)
      obtain ⟨T7, X7, p7, st7⟩ := Xl.aput hexec hBk rfl hlt rfl (fits_lo8 (cv A (o + i))) (g := (mkF m 31 #[.val (.ref b), .val (.int (Int32.ofNat (o + i))), .val (.ref d), .val (.int (Int32.ofNat (q + i))), .val (.int (Int32.ofNat len)), .val (.int (Int32.ofNat i)), .val (.int (cv A (o + i)))] [.int (lo8 (cv A (o + i))), .int (Int32.ofNat (q + i)), .ref d])) rfl (rest := []) rfl (hb hbytes d31)
      have c8 : Steps p.tables e below (s₁.setTop (entryFrame m #[.ref b, .int (Int32.ofNat o), .ref d, .int (Int32.ofNat q), .int (Int32.ofNat len)] 7)) (T7.setTop (mkF m 32 #[.val (.ref b), .val (.int (Int32.ofNat (o + i))), .val (.ref d), .val (.int (Int32.ofNat (q + i))), .val (.int (Int32.ofNat len)), .val (.int (Int32.ofNat i)), .val (.int (cv A (o + i)))] [])) := c6.trans (st7 _ (Steps.refl _))
      have c9 : Steps p.tables e below (s₁.setTop (entryFrame m #[.ref b, .int (Int32.ofNat o), .ref d, .int (Int32.ofNat q), .int (Int32.ofNat len)] 7)) (T7.setTop (mkF m 3 #[.val (.ref b), .val (.int (Int32.ofNat (o + i) + 1)), .val (.ref d), .val (.int (Int32.ofNat (q + i) + 1)), .val (.int (Int32.ofNat len)), .val (.int (Int32.ofNat i + 1)), .val (.int (cv A (o + i)))] [])) := c8.trans (by
        refine iincV X7.here hexec rfl 1 (hb hbytes d32) (by decide) rfl rfl ?_
        refine iincV X7.here hexec rfl 1 (hb hbytes d35) (by decide) rfl rfl ?_
        refine iincV X7.here hexec rfl 1 (hb hbytes d38) (by decide) rfl rfl ?_
        refine XS.goto X7.here hexec rfl (pc0 := 41) rfl (hb hbytes d41) (by decide) rfl ?_
        exact Steps.refl _)
      have c10 : Steps p.tables e below (s₁.setTop (entryFrame m #[.ref b, .int (Int32.ofNat o), .ref d, .int (Int32.ofNat q), .int (Int32.ofNat len)] 7)) (T7.setTop (mkF m 3 #[.val (.ref b), .val (.int (Int32.ofNat (o + (i + 1)))), .val (.ref d), .val (.int (Int32.ofNat (q + (i + 1)))), .val (.int (Int32.ofNat len)), .val (.int (Int32.ofNat (i + 1))), .val (.int (cv A (o + i)))] [])) := by
        have := c9
        rw [succ32, succ32, succ32] at this
        exact this
      exact ih (i + 1) (by omega) _ (Or.inr ⟨_, rfl, rfl⟩) T7 _ (by rw [copyLocs_step, ← List.append_assoc]; exact X7) (pl.trans p7) (fl.step (by omega) hlt (by simp)) c10
  obtain ⟨T9, B9, z9, X9, p9, f9, g9⟩ := loop len 0 (by omega) .unset (Or.inl rfl) s₁ B (by simpa [copyLocs] using X0) ⟨hB0.1, fun _ _ => rfl, rfl⟩ (Laid.zero _ _ _) c2
  have c11 : Steps p.tables e below (s₁.setTop (entryFrame m #[.ref b, .int (Int32.ofNat o), .ref d, .int (Int32.ofNat q), .int (Int32.ofNat len)] 7)) (T9.setTop (mkF m 46 #[.val (.ref b), .val (.int (Int32.ofNat (o + len))), .val (.ref d), .val (.int (Int32.ofNat (q + len))), .val (.int (Int32.ofNat len)), .val (.int (Int32.ofNat len)), z9] [.int (Int32.ofNat len)])) := g9.trans (by
    refine XS.iload X9.here hexec rfl (hb hbytes d3) rfl ?_
    refine XS.iload X9.here hexec rfl (hb hbytes d5) rfl ?_
    refine XS.icmpYes X9.here hexec rfl (pc0 := 7) rfl (hb hbytes d7) rfl (ii_ge_t (nlt32 (by omega) (Nat.le_refl _))) (by decide) rfl ?_
    refine XS.iload X9.here hexec rfl (hb hbytes d44) rfl ?_
    exact Steps.refl _)
  exact ⟨T9, some (.int (Int32.ofNat len)), _, _, _, X9, by simp, rfl, rfl, (fun h => by cases h), ⟨rfl, B9, p9.from hh0, f9⟩, fun fs hl => c11.trans (X9.ireturnOut hexec hret rfl (Or.inl rfl) (hb hbytes d46) hl)⟩
end Cmp5
namespace Cmp3
def yN : MethodName := ⟨"java/lang/StringUTF16", "compress", "([CII)[B"⟩
abbrev yB : ByteArray := jdk_52_method_16_code
theorem d0 : decode yB 0 = .ok (.iload_n 2, 1) := by decide +kernel
theorem d1 : decode yB 1 = .ok (.newarray .byte, 2) := by decide +kernel
theorem d3 : decode yB 3 = .ok (.astore_n 3, 1) := by decide +kernel
theorem d4 : decode yB 4 = .ok (.aload_n 0, 1) := by decide +kernel
theorem d5 : decode yB 5 = .ok (.iload_n 1, 1) := by decide +kernel
theorem d6 : decode yB 6 = .ok (.aload_n 3, 1) := by decide +kernel
theorem d7 : decode yB 7 = .ok (.iconst 0, 1) := by decide +kernel
theorem d8 : decode yB 8 = .ok (.iload_n 2, 1) := by decide +kernel
theorem d9 : decode yB 9 = .ok (.invokestatic 115, 3) := by decide +kernel
theorem d12 : decode yB 12 = .ok (.istore 4, 2) := by decide +kernel
theorem d14 : decode yB 14 = .ok (.iload 4, 2) := by decide +kernel
theorem d16 : decode yB 16 = .ok (.iload_n 2, 1) := by decide +kernel
theorem d17 : decode yB 17 = .ok (.if_icmp (.eq) 40, 3) := by decide +kernel
theorem d57 : decode yB 57 = .ok (.aload_n 3, 1) := by decide +kernel
theorem d58 : decode yB 58 = .ok (.areturn, 1) := by decide +kernel
def site : List Cond := [.arrayClass .byte, Cmp5.tab] ++ staticW U16 115 Cmp5.yN
def tab : Cond := tabOf yN yB 6 (some (.array .byte)) site
def P (b : Addr) (A : Cell) (o len : Nat) (args : Array Value) (s : State) : Prop := args = #[.ref b, .int (Int32.ofNat o), .int (Int32.ofNat len)] ∧ Ch b A s ∧ o + len ≤ A.slots.size ∧ len ≤ 536870912 ∧ ∀ i, i < len → ¬ 255 < cv A (o + i)
def E (b : Addr) (A : Cell) (o len : Nat) (r : Option Value) (s u : State) : Prop := NewArr .byte "[B" len (fun j => .int (lo8 (cv A (o + j)))) r s u ∧ u.heap.size = s.heap.size + 1
/-- no char of the range above 255: a new byte[] of their low bytes -/
theorem law (l : Launch) (b : Addr) (A : Cell) (o len : Nat) : Law l yN 3 3 1 18 yB 6 (some (.array .byte)) site (P b A o len) (E b A o len) [] 1 len := by
  refine Law.of_walk (plainFor_of_name (by decide +kernel)) (by decide +kernel) (by decide +kernel) (by decide) (fun _ _ h => by rw [h.1]; rfl) (fun _ U U' hal hh h => ⟨h.1, h.2.1.mv hal hh, h.2.2⟩) (fun r U U' V V' h1 hal h2 h => ⟨NewArr.mv r U U' V V' h1 hal h2 h.1, by rw [h1, h2]; exact h.2⟩) ?_
  intro p e s m args below meth c s₁ X0 hexec hbytes hml hret hlk hnm hown hh0 W hP
  obtain ⟨rfl, hA, l1, l2, hp⟩ := hP
  have a31 := hA.1.2.2.2
  have c1 : Steps p.tables e below (s₁.setTop (entryFrame m #[.ref b, .int (Int32.ofNat o), .int (Int32.ofNat len)] 6)) (s₁.setTop (mkF m 0 #[.val (.ref b), .val (.int (Int32.ofNat o)), .val (.int (Int32.ofNat len)), .unset, .unset, .unset] [])) := entry rfl
  have c2 : Steps p.tables e below (s₁.setTop (entryFrame m #[.ref b, .int (Int32.ofNat o), .int (Int32.ofNat len)] 6)) (s₁.setTop (mkF m 1 #[.val (.ref b), .val (.int (Int32.ofNat o)), .val (.int (Int32.ofNat len)), .unset, .unset, .unset] [.int (Int32.ofNat len)])) := c1.trans (by
    refine XS.iloadN X0.here hexec rfl (hb hbytes d0) rfl ?_
    exact Steps.refl _)
  obtain ⟨T3, B3, X3, ba3, bs3, bv3, bh3, bf3, st3⟩ := X0.anew hexec (atype := .byte) (wk W (.arrayClass .byte)) rfl (by show len * 1 ≤ _; omega) (by omega) (g := (mkF m 1 #[.val (.ref b), .val (.int (Int32.ofNat o)), .val (.int (Int32.ofNat len)), .unset, .unset, .unset] [.int (Int32.ofNat len)])) rfl (hb hbytes d1) (rest := []) rfl (Nat.le_refl _) (by show 0 + len ≤ len; omega)
  rw [hh0] at ba3 st3
  have kp3 : XT.Kept s T3 := (XT.Kept.of_eq hh0).push bh3
  have hA3 := hA.keep X3.warmed.alike (kp3 _ _ hA.1.1)
  have hne : b ≠ s.heap.size := hA.1.ne
  have c4 : Steps p.tables e below (s₁.setTop (entryFrame m #[.ref b, .int (Int32.ofNat o), .int (Int32.ofNat len)] 6)) (T3.setTop (mkF m 3 #[.val (.ref b), .val (.int (Int32.ofNat o)), .val (.int (Int32.ofNat len)), .unset, .unset, .unset] [.ref s.heap.size])) := c2.trans (st3 _ (Steps.refl _))
  have c5 : Steps p.tables e below (s₁.setTop (entryFrame m #[.ref b, .int (Int32.ofNat o), .int (Int32.ofNat len)] 6)) (T3.setTop (mkF m 9 #[.val (.ref b), .val (.int (Int32.ofNat o)), .val (.int (Int32.ofNat len)), .val (.ref s.heap.size), .unset, .unset] [.int (Int32.ofNat len), .int 0, .ref s.heap.size, .int (Int32.ofNat o), .ref b])) := c4.trans (by
    refine XS.astoreN X3.here hexec rfl (hb hbytes d3) rfl rfl rfl ?_
    refine XS.aloadN X3.here hexec rfl (hb hbytes d4) rfl rfl ?_
    refine XS.iloadN X3.here hexec rfl (hb hbytes d5) rfl ?_
    refine XS.aloadN X3.here hexec rfl (hb hbytes d6) rfl rfl ?_
    refine iconstV X3.here hexec rfl 0 (hb hbytes d7) (by decide) ?_
    refine XS.iloadN X3.here hexec rfl (hb hbytes d8) rfl ?_
    exact Steps.refl _)
  obtain ⟨v6, T6, X6, E6, g6⟩ := X3.callS hexec (Cmp5.law l b A s.heap.size B3 o 0 len) hown (wks W (staticW U16 115 Cmp5.yN)) (wk W Cmp5.tab) (W := 0) (Nat.le_of_ble_eq_true rfl) (Nat.le_of_ble_eq_true rfl) (Nat.le_refl _) (by show 0 + len + 0 ≤ len; omega) (g := (mkF m 9 #[.val (.ref b), .val (.int (Int32.ofNat o)), .val (.int (Int32.ofNat len)), .val (.ref s.heap.size), .unset, .unset] [.int (Int32.ofNat len), .int (Int32.ofNat 0), .ref s.heap.size, .int (Int32.ofNat o), .ref b])) rfl (by rw [hml]; rfl) c5 (argsL := [.ref b, .int (Int32.ofNat o), .ref s.heap.size, .int (Int32.ofNat 0), .int (Int32.ofNat len)]) (rest := []) rfl rfl (by show 2 * 0 + 0 ≤ _; decide) (hb hbytes d9) (⟨rfl, hA3, ba3, hne, l1, by rw [bs3]; simp, hp⟩)
  obtain ⟨rfl, B6, p6, f6⟩ := E6
  have c7 : Steps p.tables e below (s₁.setTop (entryFrame m #[.ref b, .int (Int32.ofNat o), .int (Int32.ofNat len)] 6)) (T6.setTop (mkF m 12 #[.val (.ref b), .val (.int (Int32.ofNat o)), .val (.int (Int32.ofNat len)), .val (.ref s.heap.size), .unset, .unset] [.int (Int32.ofNat len)])) := g6
  have c8 : Steps p.tables e below (s₁.setTop (entryFrame m #[.ref b, .int (Int32.ofNat o), .int (Int32.ofNat len)] 6)) (T6.setTop (mkF m 58 #[.val (.ref b), .val (.int (Int32.ofNat o)), .val (.int (Int32.ofNat len)), .val (.ref s.heap.size), .val (.int (Int32.ofNat len)), .unset] [.ref s.heap.size])) := c7.trans (by
    refine XS.istore X6.here hexec rfl (hb hbytes d12) rfl rfl ?_
    refine XS.iload X6.here hexec rfl (hb hbytes d14) rfl ?_
    refine XS.iloadN X6.here hexec rfl (hb hbytes d16) rfl ?_
    refine XS.icmpYes X6.here hexec rfl (pc0 := 17) rfl (hb hbytes d17) rfl (ii_eq_t rfl) (by decide) rfl ?_
    refine XS.aloadN X6.here hexec rfl (hb hbytes d57) rfl rfl ?_
    exact Steps.refl _)
  have X8 := X6.wide (L' := []) (cells' := 1) (slots' := len) (fun x hx hlt => by
    simp only [List.nil_append, copyLocs, List.mem_map, List.mem_range] at hx
    obtain ⟨i, -, rfl⟩ := hx
    exact absurd hlt (Nat.lt_irrefl _)) (Nat.le_refl _) (by omega)
  exact ⟨T6, some (.ref s.heap.size), _, _, _, X8, rfl, rfl, rfl, (fun h => by cases h), ⟨⟨rfl, B6, ba3.like (X3.warmed.alike.symm.trans X6.warmed.alike) p6.1 f6.1 f6.2.1 f6.2.2.1, f6.2.1.trans bv3, by rw [X6.warmed.alike.findClass, f6.1]; exact bf3, by rw [f6.2.2.1, bs3]; simp, fun j hj => by rw [f6.2.2.2 j, if_pos (by omega)]; rfl, kp3.put p6 (Nat.le_refl _)⟩, by rw [p6.2.2, bh3, hh0]; simp⟩, fun fs hl => c8.trans (X8.areturnOut hexec rfl hret rfl (hb hbytes d58) hl)⟩
end Cmp3
namespace CodL
def yN : MethodName := ⟨"java/lang/StringUTF16", "coderFromArrayLen", "([BI)B"⟩
abbrev yB : ByteArray := jdk_52_method_15_code
theorem d0 : decode yB 0 = .ok (.iload_n 1, 1) := by decide +kernel
theorem d1 : decode yB 1 = .ok (.aload_n 0, 1) := by decide +kernel
theorem d2 : decode yB 2 = .ok (.arraylength, 1) := by decide +kernel
theorem d3 : decode yB 3 = .ok (.isub, 1) := by decide +kernel
theorem d4 : decode yB 4 = .ok (.bipush 31, 2) := by decide +kernel
theorem d6 : decode yB 6 = .ok (.iushr, 1) := by decide +kernel
theorem d7 : decode yB 7 = .ok (.i2b, 1) := by decide +kernel
theorem d8 : decode yB 8 = .ok (.ireturn, 1) := by decide +kernel
def site : List Cond := []
def tab : Cond := tabOf yN yB 2 (some .byte) site
def P (d : Addr) (B : Cell) (args : Array Value) (s : State) : Prop := args = #[.ref d, .int (Int32.ofNat B.slots.size)] ∧ Arr .byte d B s
def E (r : Option Value) (s u : State) : Prop := XT.PureE (some (.int 0)) r s u
/-- an array as long as the number of chars: LATIN1 -/
theorem law (l : Launch) (d : Addr) (B : Cell) : Law l yN 2 2 0 0 yB 2 (some .byte) site (P d B) E [] 0 0 := by
  refine Law.of_walk (plainFor_of_name (by decide +kernel)) (by decide +kernel) (by decide +kernel) (by decide) (fun _ _ h => by rw [h.1]; rfl) (fun _ U U' hal hh h => ⟨h.1, h.2.mv hal hh⟩) (fun r U U' V V' h1 hal h2 h => XT.PureE.mv r U U' V V' h1 hal h2 h) ?_
  intro p e s m args below meth c s₁ X0 hexec hbytes hml hret hlk hnm hown hh0 W hP
  obtain ⟨rfl, hB⟩ := hP
  have hB0 := hB.mv X0.warmed.alike hh0
  have c1 : Steps p.tables e below (s₁.setTop (entryFrame m #[.ref d, .int (Int32.ofNat B.slots.size)] 2)) (s₁.setTop (mkF m 0 #[.val (.ref d), .val (.int (Int32.ofNat B.slots.size))] [])) := entry rfl
  have c2 : Steps p.tables e below (s₁.setTop (entryFrame m #[.ref d, .int (Int32.ofNat B.slots.size)] 2)) (s₁.setTop (mkF m 2 #[.val (.ref d), .val (.int (Int32.ofNat B.slots.size))] [.ref d, .int (Int32.ofNat B.slots.size)])) := c1.trans (by
    refine XS.iloadN X0.here hexec rfl (hb hbytes d0) rfl ?_
    refine XS.aloadN X0.here hexec rfl (hb hbytes d1) rfl rfl ?_
    exact Steps.refl _)
  have c3 : Steps p.tables e below (s₁.setTop (entryFrame m #[.ref d, .int (Int32.ofNat B.slots.size)] 2)) (s₁.setTop (mkF m 8 #[.val (.ref d), .val (.int (Int32.ofNat B.slots.size))] [.int (lo8 (ushr (Int32.ofNat B.slots.size - Int32.ofNat B.slots.size) 31))])) := c2.trans (by
    refine X0.alen hexec hB0 rfl rfl (hb hbytes d2) ?_
    refine XS.isub X0.here hexec rfl (hb hbytes d3) rfl ?_
    refine bipushV X0.here hexec rfl 31 (hb hbytes d4) (by decide) ?_
    refine iushr X0.here hexec rfl (hb hbytes d6) rfl ?_
    refine i2b X0.here hexec rfl (hb hbytes d7) rfl ?_
    exact Steps.refl _)
  have e0 : lo8 (ushr (Int32.ofNat B.slots.size - Int32.ofNat B.slots.size) 31) = 0 := by rw [Int32.sub_self]; decide
  rw [e0] at c3
  exact ⟨s₁, some (.int 0), _, _, _, X0, rfl, rfl, rfl, (fun h => by cases h), ⟨rfl, hh0⟩, fun fs hl => c3.trans (X0.ireturnOut hexec hret rfl (Or.inr (Or.inr (Or.inl rfl))) (hb hbytes d8) hl)⟩
end CodL
/-- the String at a is Latin-1 over a new byte[] (the heap's one new cell): the low bytes of the len chars of A from o on; every cell but a is kept -/
def Got (a : Addr) (D : Cell) (fV fC : Field) (A : Cell) (o len : Nat) (r : Option Value) (s u : State) : Prop := r = none ∧ ∃ D' V : Cell, Blank "java/lang/String" a D' u ∧ Same D D' [fV.slot, fC.slot] ∧ D'.slots[fV.slot]? = some (.ref s.heap.size) ∧ D'.slots[fC.slot]? = some (.int 0) ∧ Arr .byte s.heap.size V u ∧ V.vm = .none ∧ u.vm.findClass "[B" = some V.cls ∧ V.slots.size = len ∧ (∀ j, j < len → V.slots[j]? = some (.int (lo8 (cv A (o + j))))) ∧ (∀ (y : Addr) (c : Cell), y ≠ a → s.heap[y]? = some c → u.heap[y]? = some c) ∧ u.heap.size = s.heap.size + 1
theorem Got.mv {a : Addr} {D A : Cell} {fV fC : Field} {o len : Nat} : ∀ r (U U' V V' : State), U'.heap = U.heap → V.vm.Alike V'.vm → V'.heap = V.heap → Got a D fV fC A o len r U V → Got a D fV fC A o len r U' V' :=
  fun r U U' V V' h1 hal h2 ⟨e0, D', X, a1, a2, a3, a4, a5, a6, a7, a8, a9, a10, a11⟩ => ⟨e0, D', X, a1.mv hal h2, a2, by rw [h1]; exact a3, a4, by rw [h1]; exact a5.mv hal h2, a6, by rw [hal.findClass]; exact a7, a8, a9, by rw [h1, h2]; exact a10, by rw [h1, h2]; exact a11⟩
namespace New4
def yN : MethodName := ⟨"java/lang/String", "<init>", "([CIILjava/lang/Void;)V"⟩
abbrev yB : ByteArray := jdk_42_method_149_code
theorem d0 : decode yB 0 = .ok (.aload_n 0, 1) := by decide +kernel
theorem d1 : decode yB 1 = .ok (.invokespecial 1, 3) := by decide +kernel
theorem d4 : decode yB 4 = .ok (.iload_n 3, 1) := by decide +kernel
theorem d5 : decode yB 5 = .ok (.ifCond (.ne) 22, 3) := by decide +kernel
theorem d27 : decode yB 27 = .ok (.getstatic 38, 3) := by decide +kernel
theorem d30 : decode yB 30 = .ok (.ifCond (.eq) 28, 3) := by decide +kernel
theorem d33 : decode yB 33 = .ok (.aload_n 1, 1) := by decide +kernel
theorem d34 : decode yB 34 = .ok (.iload_n 2, 1) := by decide +kernel
theorem d35 : decode yB 35 = .ok (.iload_n 3, 1) := by decide +kernel
theorem d36 : decode yB 36 = .ok (.invokestatic 177, 3) := by decide +kernel
theorem d39 : decode yB 39 = .ok (.astore 5, 2) := by decide +kernel
theorem d41 : decode yB 41 = .ok (.aload_n 0, 1) := by decide +kernel
theorem d42 : decode yB 42 = .ok (.aload 5, 2) := by decide +kernel
theorem d44 : decode yB 44 = .ok (.iload_n 3, 1) := by decide +kernel
theorem d45 : decode yB 45 = .ok (.invokestatic 47, 3) := by decide +kernel
theorem d48 : decode yB 48 = .ok (.putfield 15, 3) := by decide +kernel
theorem d51 : decode yB 51 = .ok (.aload_n 0, 1) := by decide +kernel
theorem d52 : decode yB 52 = .ok (.aload 5, 2) := by decide +kernel
theorem d54 : decode yB 54 = .ok (.putfield 9, 3) := by decide +kernel
theorem d57 : decode yB 57 = .ok (.return_, 1) := by decide +kernel
def site : List Cond := [.fieldLink "java/lang/String" 38 "java/lang/String" "COMPACT_STRINGS" "Z", Cmp3.tab, CodL.tab, .laysFinal "java/lang/String" "java/lang/String" "value" "[B", .fieldLink "java/lang/String" 9 "java/lang/String" "value" "[B", .laysFinal "java/lang/String" "java/lang/String" "coder" "B", .fieldLink "java/lang/String" 15 "java/lang/String" "coder" "B"] ++ objW "java/lang/String" 1 ++ staticW "java/lang/String" 177 Cmp3.yN ++ staticW "java/lang/String" 47 CodL.yN
def tab : Cond := tabOf yN yB 6 none site
def P (a : Addr) (D : Cell) (fV fC : Field) (b : Addr) (A : Cell) (z : Int32) (o len : Nat) (args : Array Value) (s : State) : Prop := args = #[.ref a, .ref b, .int (Int32.ofNat o), .int (Int32.ofNat len), .null] ∧ Blank "java/lang/String" a D s ∧ Found "java/lang/String" "value" "[B" fV s ∧ Found "java/lang/String" "coder" "B" fC s ∧ Ch b A s ∧ StaticIs s "java/lang/String" "COMPACT_STRINGS" "Z" (.int z) ∧ ¬ z = 0 ∧ 0 < len ∧ o + len ≤ A.slots.size ∧ len ≤ 536870912 ∧ ∀ i, i < len → ¬ 255 < cv A (o + i)
def E (a : Addr) (D : Cell) (fV fC : Field) (A : Cell) (o len : Nat) (r : Option Value) (s u : State) : Prop := Got a D fV fC A o len r s u
/-- len > 0, no char of the range above 255: a Latin-1 String of their low bytes -/
theorem law (l : Launch) (a : Addr) (D : Cell) (fV fC : Field) (b : Addr) (A : Cell) (z : Int32) (o len : Nat) : Law l yN 5 4 2 35 yB 6 none site (P a D fV fC b A z o len) (E a D fV fC A o len) [⟨a, fC.slot⟩, ⟨a, fV.slot⟩] 1 len := by
  refine Law.of_walk (plainFor_of_name (by decide +kernel)) (by decide +kernel) (by decide +kernel) (by decide) (fun _ _ h => by rw [h.1]; rfl) (fun _ U U' hal hh h => ⟨h.1, h.2.1.mv hal hh, h.2.2.1.al hal, h.2.2.2.1.al hal, h.2.2.2.2.1.mv hal hh, h.2.2.2.2.2.1.there hal hh, h.2.2.2.2.2.2⟩) (fun r U U' V V' h1 hal h2 h => Got.mv r U U' V V' h1 hal h2 h) ?_
  intro p e s m args below meth c s₁ X0 hexec hbytes hml hret hlk hnm hown hh0 W hP
  obtain ⟨rfl, hB, f1, f2, hA, s1, hz, l0, l1, l2, hp⟩ := hP
  have a31 := hA.1.2.2.2
  have c1 : Steps p.tables e below (s₁.setTop (entryFrame m #[.ref a, .ref b, .int (Int32.ofNat o), .int (Int32.ofNat len), .null] 6)) (s₁.setTop (mkF m 0 #[.val (.ref a), .val (.ref b), .val (.int (Int32.ofNat o)), .val (.int (Int32.ofNat len)), .val .null, .unset] [])) := entry rfl
  have c2 : Steps p.tables e below (s₁.setTop (entryFrame m #[.ref a, .ref b, .int (Int32.ofNat o), .int (Int32.ofNat len), .null] 6)) (s₁.setTop (mkF m 1 #[.val (.ref a), .val (.ref b), .val (.int (Int32.ofNat o)), .val (.int (Int32.ofNat len)), .val .null, .unset] [.ref a])) := c1.trans (by
    refine XS.aloadN X0.here hexec rfl (hb hbytes d0) rfl rfl ?_
    exact Steps.refl _)
  obtain ⟨T3, X3, q3, st3⟩ := X0.oinit hexec hown (wks W (objW "java/lang/String" 1)) (g := (mkF m 1 #[.val (.ref a), .val (.ref b), .val (.int (Int32.ofNat o)), .val (.int (Int32.ofNat len)), .val .null, .unset] [.ref a])) rfl (by rw [hml]; rfl) (rest := []) rfl (hb hbytes d1) (W := 0) (by show 2 * 0 + 0 ≤ _; decide) (Nat.le_of_ble_eq_true rfl) (Nat.le_of_ble_eq_true rfl)
  have hh3 := q3.trans hh0
  have c4 : Steps p.tables e below (s₁.setTop (entryFrame m #[.ref a, .ref b, .int (Int32.ofNat o), .int (Int32.ofNat len), .null] 6)) (T3.setTop (mkF m 27 #[.val (.ref a), .val (.ref b), .val (.int (Int32.ofNat o)), .val (.int (Int32.ofNat len)), .val .null, .unset] [])) := (c2.trans (st3 _ (Steps.refl _))).trans (by
    refine XS.iloadN X3.here hexec rfl (hb hbytes d4) rfl ?_
    refine XS.ifYes X3.here hexec rfl (pc0 := 5) rfl (hb hbytes d5) rfl (i0_ne_t (nz32 (by omega) l0)) (by decide) rfl ?_
    exact Steps.refl _)
  obtain ⟨T5, X5, q5, st5⟩ := X3.sget hexec hown (wk W (.fieldLink "java/lang/String" 38 "java/lang/String" "COMPACT_STRINGS" "Z")) s1 (fun _ _ h => by rw [hh3]; exact h) (g := (mkF m 27 #[.val (.ref a), .val (.ref b), .val (.int (Int32.ofNat o)), .val (.int (Int32.ofNat len)), .val .null, .unset] [])) rfl (hb hbytes d27)
  have hh5 := q5.trans hh3
  have c6 : Steps p.tables e below (s₁.setTop (entryFrame m #[.ref a, .ref b, .int (Int32.ofNat o), .int (Int32.ofNat len), .null] 6)) (T5.setTop (mkF m 30 #[.val (.ref a), .val (.ref b), .val (.int (Int32.ofNat o)), .val (.int (Int32.ofNat len)), .val .null, .unset] [.int z])) := c4.trans (st5 _ (Steps.refl _))
  have c7 : Steps p.tables e below (s₁.setTop (entryFrame m #[.ref a, .ref b, .int (Int32.ofNat o), .int (Int32.ofNat len), .null] 6)) (T5.setTop (mkF m 36 #[.val (.ref a), .val (.ref b), .val (.int (Int32.ofNat o)), .val (.int (Int32.ofNat len)), .val .null, .unset] [.int (Int32.ofNat len), .int (Int32.ofNat o), .ref b])) := c6.trans (by
    refine XS.ifNo X5.here hexec rfl (hb hbytes d30) rfl (i0_eq_f hz) ?_
    refine XS.aloadN X5.here hexec rfl (hb hbytes d33) rfl rfl ?_
    refine XS.iloadN X5.here hexec rfl (hb hbytes d34) rfl ?_
    refine XS.iloadN X5.here hexec rfl (hb hbytes d35) rfl ?_
    exact Steps.refl _)
  obtain ⟨v8, T8, X8, E8, g8⟩ := X5.callS hexec (Cmp3.law l b A o len) hown (wks W (staticW "java/lang/String" 177 Cmp3.yN)) (wk W Cmp3.tab) (W := 0) (Nat.le_of_ble_eq_true rfl) (Nat.le_of_ble_eq_true rfl) (Nat.le_refl _) (by show 0 + len ≤ len; omega) (g := (mkF m 36 #[.val (.ref a), .val (.ref b), .val (.int (Int32.ofNat o)), .val (.int (Int32.ofNat len)), .val .null, .unset] [.int (Int32.ofNat len), .int (Int32.ofNat o), .ref b])) rfl (by rw [hml]; rfl) c7 (argsL := [.ref b, .int (Int32.ofNat o), .int (Int32.ofNat len)]) (rest := []) rfl rfl (by show 2 * 0 + 0 ≤ _; decide) (hb hbytes d36) (⟨rfl, hA.mv X5.warmed.alike hh5, l1, l2, hp⟩)
  obtain ⟨e8, z8⟩ := E8
  obtain ⟨rfl, N, n1, n2, n3, n4, n5, n6⟩ := NewArr.mv _ T5 s _ _ hh5.symm (Vm.Alike.refl _) rfl e8
  rw [hh5] at z8
  have hB1 := hB.keep X8.warmed.alike (n6 _ _ hB.1)
  have hne : s.heap.size ≠ a := (Nat.ne_of_lt (Array.getElem?_eq_some_iff.mp hB.1).1).symm
  have c9 : Steps p.tables e below (s₁.setTop (entryFrame m #[.ref a, .ref b, .int (Int32.ofNat o), .int (Int32.ofNat len), .null] 6)) (T8.setTop (mkF m 39 #[.val (.ref a), .val (.ref b), .val (.int (Int32.ofNat o)), .val (.int (Int32.ofNat len)), .val .null, .unset] [.ref s.heap.size])) := g8
  have c10 : Steps p.tables e below (s₁.setTop (entryFrame m #[.ref a, .ref b, .int (Int32.ofNat o), .int (Int32.ofNat len), .null] 6)) (T8.setTop (mkF m 45 #[.val (.ref a), .val (.ref b), .val (.int (Int32.ofNat o)), .val (.int (Int32.ofNat len)), .val .null, .val (.ref s.heap.size)] [.int (Int32.ofNat N.slots.size), .ref s.heap.size, .ref a])) := by
    have hc : Steps p.tables e below (s₁.setTop (entryFrame m #[.ref a, .ref b, .int (Int32.ofNat o), .int (Int32.ofNat len), .null] 6)) (T8.setTop (mkF m 45 #[.val (.ref a), .val (.ref b), .val (.int (Int32.ofNat o)), .val (.int (Int32.ofNat len)), .val .null, .val (.ref s.heap.size)] [.int (Int32.ofNat len), .ref s.heap.size, .ref a])) := c9.trans (by
      refine XS.astore X8.here hexec rfl (hb hbytes d39) rfl rfl rfl ?_
      refine XS.aloadN X8.here hexec rfl (hb hbytes d41) rfl rfl ?_
      refine XS.aload X8.here hexec rfl (hb hbytes d42) rfl rfl ?_
      refine XS.iloadN X8.here hexec rfl (hb hbytes d44) rfl ?_
      exact Steps.refl _)
    rw [n4]; exact hc
  obtain ⟨v11, T11, X11, E11, g11⟩ := X8.callS hexec (CodL.law l s.heap.size N) hown (wks W (staticW "java/lang/String" 47 CodL.yN)) (wk W CodL.tab) (W := 1) (Nat.le_of_ble_eq_true rfl) (Nat.le_of_ble_eq_true rfl) (Nat.le_refl _) (by show 0 + len + 0 ≤ len; omega) (g := (mkF m 45 #[.val (.ref a), .val (.ref b), .val (.int (Int32.ofNat o)), .val (.int (Int32.ofNat len)), .val .null, .val (.ref s.heap.size)] [.int (Int32.ofNat N.slots.size), .ref s.heap.size, .ref a])) rfl (by rw [hml]; rfl) c10 (argsL := [.ref s.heap.size, .int (Int32.ofNat N.slots.size)]) (rest := [.ref a]) rfl rfl (by show 2 * 0 + (1 + 0) ≤ _; decide) (hb hbytes d45) (⟨rfl, n1⟩)
  obtain ⟨rfl, q11⟩ := E11
  have hB11 := hB1.mv (X8.warmed.alike.symm.trans X11.warmed.alike) q11
  have c12 : Steps p.tables e below (s₁.setTop (entryFrame m #[.ref a, .ref b, .int (Int32.ofNat o), .int (Int32.ofNat len), .null] 6)) (T11.setTop (mkF m 48 #[.val (.ref a), .val (.ref b), .val (.int (Int32.ofNat o)), .val (.int (Int32.ofNat len)), .val .null, .val (.ref s.heap.size)] [.int 0, .ref a])) := g11
  obtain ⟨T13, X13, p13, bl13, sl13, st13⟩ := X11.finit hexec hown (wk W (.fieldLink "java/lang/String" 15 "java/lang/String" "coder" "B")) (Or.inr ⟨_, (wk W (.laysFinal "java/lang/String" "java/lang/String" "coder" "B"))⟩) (Or.inl ⟨rfl, hnm⟩) f2 (Or.inl rfl) hB11 (t := .byte) (by decide +kernel) rfl (g := (mkF m 48 #[.val (.ref a), .val (.ref b), .val (.int (Int32.ofNat o)), .val (.int (Int32.ofNat len)), .val .null, .val (.ref s.heap.size)] [.int 0, .ref a])) rfl (rest := []) rfl (hb hbytes d48)
  have c14 : Steps p.tables e below (s₁.setTop (entryFrame m #[.ref a, .ref b, .int (Int32.ofNat o), .int (Int32.ofNat len), .null] 6)) (T13.setTop (mkF m 54 #[.val (.ref a), .val (.ref b), .val (.int (Int32.ofNat o)), .val (.int (Int32.ofNat len)), .val .null, .val (.ref s.heap.size)] [.ref s.heap.size, .ref a])) := (c12.trans (st13 _ (Steps.refl _))).trans (by
    refine XS.aloadN X13.here hexec rfl (hb hbytes d51) rfl rfl ?_
    refine XS.aload X13.here hexec rfl (hb hbytes d52) rfl rfl ?_
    exact Steps.refl _)
  obtain ⟨T15, X15, p15, bl15, sl15, st15⟩ := X13.finit hexec hown (wk W (.fieldLink "java/lang/String" 9 "java/lang/String" "value" "[B")) (Or.inr ⟨_, (wk W (.laysFinal "java/lang/String" "java/lang/String" "value" "[B"))⟩) (Or.inl ⟨rfl, hnm⟩) f1 (Or.inl rfl) bl13 (t := (.array .byte)) (by decide +kernel) rfl (g := (mkF m 54 #[.val (.ref a), .val (.ref b), .val (.int (Int32.ofNat o)), .val (.int (Int32.ofNat len)), .val .null, .val (.ref s.heap.size)] [.ref s.heap.size, .ref a])) rfl (rest := []) rfl (hb hbytes d54)
  have c16 : Steps p.tables e below (s₁.setTop (entryFrame m #[.ref a, .ref b, .int (Int32.ofNat o), .int (Int32.ofNat len), .null] 6)) (T15.setTop (mkF m 57 #[.val (.ref a), .val (.ref b), .val (.int (Int32.ofNat o)), .val (.int (Int32.ofNat len)), .val .null, .val (.ref s.heap.size)] [])) := c14.trans (st15 _ (Steps.refl _))
  have ap := apart (Or.inr ⟨_, (wk W (.laysFinal "java/lang/String" "java/lang/String" "value" "[B"))⟩) (Or.inr ⟨_, (wk W (.laysFinal "java/lang/String" "java/lang/String" "coder" "B"))⟩) f1 f2 (t₁ := .array .byte) (t₂ := .byte) (by decide +kernel) (by decide +kernel) (by decide)
  have al := X8.warmed.alike.symm.trans X15.warmed.alike
  have n7 : T11.heap[s.heap.size]? = some N := by rw [q11]; exact n1.1
  exact ⟨T15, none, _, _, _, X15, by simp, rfl, by omega, (fun _ => rfl), ⟨rfl, _, N, bl15, ((Same.refl D _).set _ (by simp)).set _ (by simp), sl15, (Cell.slots_setSlot_ne _ ap).trans sl13, n1.keep al (p15.other hne (p13.other hne n7)), n2, by rw [al.findClass]; exact n3, n4, n5, fun y c h1 h2 => p15.other h1 (p13.other h1 (by rw [q11]; exact n6 y c h2)), by rw [p15.2.2, p13.2.2, q11]; exact z8⟩, fun fs hl => c16.trans (X15.returnOut hexec hret (hb hbytes d57) hl)⟩
end New4
namespace New1
def yN : MethodName := ⟨"java/lang/String", "<init>", "([C)V"⟩
abbrev yB : ByteArray := jdk_42_method_3_code
theorem d0 : decode yB 0 = .ok (.aload_n 0, 1) := by decide +kernel
theorem d1 : decode yB 1 = .ok (.aload_n 1, 1) := by decide +kernel
theorem d2 : decode yB 2 = .ok (.iconst 0, 1) := by decide +kernel
theorem d3 : decode yB 3 = .ok (.aload_n 1, 1) := by decide +kernel
theorem d4 : decode yB 4 = .ok (.arraylength, 1) := by decide +kernel
theorem d5 : decode yB 5 = .ok (.aconst_null, 1) := by decide +kernel
theorem d6 : decode yB 6 = .ok (.invokespecial 27, 3) := by decide +kernel
theorem d9 : decode yB 9 = .ok (.return_, 1) := by decide +kernel
def site : List Cond := [New4.tab] ++ initW "java/lang/String" 27 New4.yN
def tab : Cond := tabOf yN yB 2 none site
def P (a : Addr) (D : Cell) (fV fC : Field) (b : Addr) (A : Cell) (z : Int32) (args : Array Value) (s : State) : Prop := args = #[.ref a, .ref b] ∧ Blank "java/lang/String" a D s ∧ Found "java/lang/String" "value" "[B" fV s ∧ Found "java/lang/String" "coder" "B" fC s ∧ Ch b A s ∧ StaticIs s "java/lang/String" "COMPACT_STRINGS" "Z" (.int z) ∧ ¬ z = 0 ∧ 0 < A.slots.size ∧ A.slots.size ≤ 536870912 ∧ ∀ i, i < A.slots.size → ¬ 255 < cv A i
def E (a : Addr) (D : Cell) (fV fC : Field) (A : Cell) (r : Option Value) (s u : State) : Prop := Got a D fV fC A 0 A.slots.size r s u
/-- new String(chars), not empty, no char above 255: a Latin-1 String of their low bytes -/
theorem law (l : Launch) (a : Addr) (D : Cell) (fV fC : Field) (b : Addr) (A : Cell) (z : Int32) : Law l yN 2 1 3 52 yB 2 none site (P a D fV fC b A z) (E a D fV fC A) [⟨a, fC.slot⟩, ⟨a, fV.slot⟩] 1 A.slots.size := by
  refine Law.of_walk (plainFor_of_name (by decide +kernel)) (by decide +kernel) (by decide +kernel) (by decide) (fun _ _ h => by rw [h.1]; rfl) (fun _ U U' hal hh h => ⟨h.1, h.2.1.mv hal hh, h.2.2.1.al hal, h.2.2.2.1.al hal, h.2.2.2.2.1.mv hal hh, h.2.2.2.2.2.1.there hal hh, h.2.2.2.2.2.2⟩) (fun r U U' V V' h1 hal h2 h => Got.mv r U U' V V' h1 hal h2 h) ?_
  intro p e s m args below meth c s₁ X0 hexec hbytes hml hret hlk hnm hown hh0 W hP
  obtain ⟨rfl, hB, f1, f2, hA, s1, hz, l0, l2, hp⟩ := hP
  have c1 : Steps p.tables e below (s₁.setTop (entryFrame m #[.ref a, .ref b] 2)) (s₁.setTop (mkF m 0 #[.val (.ref a), .val (.ref b)] [])) := entry rfl
  have c2 : Steps p.tables e below (s₁.setTop (entryFrame m #[.ref a, .ref b] 2)) (s₁.setTop (mkF m 6 #[.val (.ref a), .val (.ref b)] [.null, .int (Int32.ofNat A.slots.size), .int 0, .ref b, .ref a])) := c1.trans (by
    refine XS.aloadN X0.here hexec rfl (hb hbytes d0) rfl rfl ?_
    refine XS.aloadN X0.here hexec rfl (hb hbytes d1) rfl rfl ?_
    refine iconstV X0.here hexec rfl 0 (hb hbytes d2) (by decide) ?_
    refine XS.aloadN X0.here hexec rfl (hb hbytes d3) rfl rfl ?_
    refine X0.alen hexec (hA.1.mv X0.warmed.alike hh0) rfl rfl (hb hbytes d4) ?_
    refine XS.aconstNull X0.here hexec rfl (hb hbytes d5) ?_
    exact Steps.refl _)
  obtain ⟨v3, T3, X3, E3, g3⟩ := X0.callN hexec (New4.law l a D fV fC b A z 0 A.slots.size) rfl hown (wks W (initW "java/lang/String" 27 New4.yN)) (W New4.tab (by simp only [site, List.mem_cons, List.mem_append, true_or, or_true])) (W := 0) (Nat.le_of_ble_eq_true rfl) (Nat.le_of_ble_eq_true rfl) (Nat.le_refl _) (by show 0 + A.slots.size ≤ A.slots.size; omega) (g := (mkF m 6 #[.val (.ref a), .val (.ref b)] [.null, .int (Int32.ofNat A.slots.size), .int (Int32.ofNat 0), .ref b, .ref a])) rfl (by rw [hml]; rfl) c2 (argsL := [.ref b, .int (Int32.ofNat 0), .int (Int32.ofNat A.slots.size), .null]) (rest := []) rfl rfl (by show 2 * 0 + 0 ≤ _; decide) (hb hbytes d6) (⟨rfl, hB.mv X0.warmed.alike hh0, f1.al X0.warmed.alike, f2.al X0.warmed.alike, hA.mv X0.warmed.alike hh0, s1.there X0.warmed.alike hh0, hz, l0, by omega, l2, fun i hi => by rw [Nat.zero_add]; exact hp i hi⟩)
  have e0 := Got.mv _ s₁ s _ _ hh0.symm (Vm.Alike.refl _) rfl E3
  obtain rfl := e0.1
  have c4 : Steps p.tables e below (s₁.setTop (entryFrame m #[.ref a, .ref b] 2)) (T3.setTop (mkF m 9 #[.val (.ref a), .val (.ref b)] [])) := g3
  exact ⟨T3, none, _, _, _, X3, by simp, rfl, by omega, (fun _ => rfl), e0, fun fs hl => c4.trans (X3.returnOut hexec hret (hb hbytes d9) hl)⟩
theorem pays {l : Launch} {R : Room} {p : Program} {e : Env} {below : List Frame} {s : State} {sargs : Array Value} {len W : Nat} (a : Addr) (D : Cell) (fV fC : Field) (b : Addr) (A : Cell) (z : Int32) (htab : tab.before sargs s = true) (hfr : 4 ≤ R.frames) (hlo : W + 65 ≤ R.locals) :
    Back l R p e below s sargs yN len W (fun A₁ a₁ => A₁.cells + 1 ≤ R.cells ∧ A₁.slots + A.slots.size ≤ R.slots ∧ P a D fV fC b A z a₁ A₁.U) (fun A₁ _ v₁ B₁ => E a D fV fC A v₁ A₁.U B₁.U ∧ B₁.locs = A₁.locs ++ [⟨a, fC.slot⟩, ⟨a, fV.slot⟩] ∧ B₁.cells = A₁.cells + 1 ∧ B₁.slots = A₁.slots + A.slots.size) :=
  (law l a D fV fC b A z).pays htab hfr (by omega)
end New1
end StrChars
namespace StrChars.Road
open Jvm Sem ClassFile Op Lib Jvm.Stand Jvm.Free Jvm.Free.XT
open Jvm.Lib.Cold (StaticIs)
abbrev ST : String := "java/lang/String"
/-- every table word that New1's law asks, flat -/
abbrev words : List Jvm.Cond := [.code New1.yN New1.yB 2 none, .initialized ST, .methodLink ST 27 New4.yN, .instanceMethod New4.yN,
  .code New4.yN New4.yB 6 none, .fieldLink ST 38 ST "COMPACT_STRINGS" "Z", .laysFinal ST ST "value" "[B", .fieldLink ST 9 ST "value" "[B", .laysFinal ST ST "coder" "B", .fieldLink ST 15 ST "coder" "B",
  .methodLink ST 1 Lib.objectInit, .instanceMethod Lib.objectInit, .code Lib.objectInit ⟨#[0xb1]⟩ 1 none, .methodLink ST 177 Cmp3.yN, .static Cmp3.yN, .methodLink ST 47 CodL.yN, .static CodL.yN,
  .code Cmp3.yN Cmp3.yB 6 (some (.array .byte)), .initialized U16, .arrayClass .byte, .methodLink U16 115 Cmp5.yN, .static Cmp5.yN, .code Cmp5.yN Cmp5.yB 7 (some .int), .code CodL.yN CodL.yB 2 (some .byte)]
theorem tab_of {a : Array Value} {s : State} (h : ∀ w ∈ words, w.before a s = true) : New1.tab.before a s = true := by
  have h5 : Cmp5.tab.before a s = true := unparts (wk h (.code Cmp5.yN Cmp5.yB 7 (some .int))) (wks h (.initialized Cmp5.yN.cls :: Cmp5.site))
  have hc : CodL.tab.before a s = true := unparts (wk h (.code CodL.yN CodL.yB 2 (some .byte))) (wks h (.initialized CodL.yN.cls :: CodL.site))
  have q5 : ∀ w ∈ Cmp5.tab :: words, w.before a s = true := fun w hw => (List.mem_cons.mp hw).elim (fun e => e ▸ h5) (h w)
  have h3 : Cmp3.tab.before a s = true := unparts (wk q5 (.code Cmp3.yN Cmp3.yB 6 (some (.array .byte)))) (wks q5 (.initialized Cmp3.yN.cls :: Cmp3.site))
  have q3 : ∀ w ∈ Cmp3.tab :: CodL.tab :: words, w.before a s = true := fun w hw => (List.mem_cons.mp hw).elim (fun e => e ▸ h3) fun hw => (List.mem_cons.mp hw).elim (fun e => e ▸ hc) (h w)
  have h4 : New4.tab.before a s = true := unparts (wk q3 (.code New4.yN New4.yB 6 none)) (wks q3 (.initialized New4.yN.cls :: New4.site))
  have q4 : ∀ w ∈ New4.tab :: words, w.before a s = true := fun w hw => (List.mem_cons.mp hw).elim (fun e => e ▸ h4) (h w)
  exact unparts (wk q4 (.code New1.yN New1.yB 2 none)) (wks q4 (.initialized New1.yN.cls :: New1.site))
/-- the words ride from the start Z to the walk's own state -/
theorem moved {Z s : State} {a0 args : Array Value} (hZ : Z.Warmed39 s.vm) (hw : ∀ d ∈ words, d.before a0 Z = true) : ∀ d ∈ words, d.before args s = true := fun d hd => by
  have q := hw d hd
  have t : ∀ d ∈ words, d = .arrayClass .byte ∨ (d.onTables && d.keepsFace) = true := by decide +kernel
  rcases t d hd with rfl | t
  · exact RoadKit.mvA hZ q
  · exact RoadKit.mv hZ q t
/-- WHAT COMES BACK, over the tables of the start Z: h the heap at the call, h' behind it -/
def Q (Z : State) (x : Addr) (A : Cell) (h : Heap) (v : Option Value) (h' : Heap) (L : List Loc) : Prop := v = none ∧ (∀ y ∈ L, y.base = x) ∧ RoadKit.Keep h h' [x] ∧ h'.size = h.size + 1 ∧ RoadKit.Exa Z h' x ST ∧ RoadKit.Fld Z h' x ST "value" "[B" (.ref h.size) ∧ RoadKit.Fld Z h' x ST "coder" "B" (.int 0) ∧
  (∃ V : Cell, RoadKit.Arr Z h' h.size V .byte ∧ V.vm = .none ∧ Z.vm.findClass "[B" = some V.cls ∧ V.slots.size = A.slots.size ∧ ∀ j, j < A.slots.size → V.slots[j]? = some (.int (lo8 (cv A j)))) ∧
  ∀ (O n d : String) (w : Value), RoadKit.Fld Z h x O n d w → RoadKit.slotOf Z O n d ≠ RoadKit.slotOf Z ST "value" "[B" → RoadKit.slotOf Z O n d ≠ RoadKit.slotOf Z ST "coder" "B" → RoadKit.Fld Z h' x O n d w
/-- **new String(chars) AT A CALL, IN THE ROAD'S FORM**: for specialBack behind newO: x the fresh String, b the char[] with the cell A -/
theorem back {p : Program} {l : Launch} {e : Env} {R : Room} {s : State} {args : Array Value} {below : List Frame} {len W : Nat} {Z : State} {a0 : Array Value} {h : Heap} (hZ : Z.Warmed39 s.vm) (hw : ∀ d ∈ words, d.before a0 Z = true) {kI : Nat} (wi : (Jvm.Cond.instantiable ST kI).before a0 Z = true)
    {x b : Addr} {A : Cell} {z : Int32} {v0 c0 : Value} (E : RoadKit.Exa Z h x ST) (V : RoadKit.Fld Z h x ST "value" "[B" v0) (C : RoadKit.Fld Z h x ST "coder" "B" c0) (K : RoadKit.Arr Z h b A .char) (hty : Typed .char A) (S : RoadKit.Sta Z h ST "COMPACT_STRINGS" "Z" (.int z)) (hz : ¬ z = 0)
    (l0 : 0 < A.slots.size) (l2 : A.slots.size ≤ 536870912) (hp : ∀ i, i < A.slots.size → ¬ 255 < cv A i) (hfr : 4 ≤ R.frames) (hlo : W + 65 ≤ R.locals) :
    Back l R p e below s args New1.yN len W (fun P a => a = #[.ref x, .ref b] ∧ P.U.heap = h ∧ P.cells + 1 ≤ R.cells ∧ P.slots + A.slots.size ≤ R.slots)
      (fun P _ v B => ∃ L, Q Z x A h v B.U.heap L ∧ B.locs = P.locs ++ L ∧ B.cells = P.cells + 1 ∧ B.slots = P.slots + A.slots.size) := by
  intro m meth c P g ig mk a X hg hsize hdg hW hn hp'
  obtain ⟨rfl, rfl, r1, r2⟩ := hp'
  have al : Z.vm.Alike P.U.vm := hZ.alike.trans X.warmed.alike
  obtain ⟨D, cfV, kV, iV, fV, hD, gV, stV, knV, obV, asV, slV⟩ := id V
  obtain ⟨D', cfC, kC, iC, fC, hD', gC, stC, -, -, asC, slC⟩ := id C
  cases hD.symm.trans hD'
  obtain ⟨D2, kD, e1, e2, e3, e4, e5⟩ := id E
  cases hD.symm.trans e1
  obtain ⟨c2, k2, i1, i2, i3, -⟩ := Cond.instantiable_spec wi
  cases e2.symm.trans i1
  cases e3.symm.trans i2
  obtain ⟨kU, u1, u2⟩ := al.2.2 _ _ e3
  have hB : Blank ST x D P.U := ⟨hD, ⟨knV, fun q hq => by rw [hq] at obV; cases obV⟩, by rw [al.findClass]; exact e2, kU, u1, by rw [u2]; exact i3, by rw [u2]; exact e5 i3⟩
  have F1 : Found ST "value" "[B" fV P.U := ⟨SBG.found_only al ⟨cfV, kV, iV, gV⟩, stV⟩
  have F2 : Found ST "coder" "B" fC P.U := ⟨SBG.found_only al ⟨cfC, kC, iC, gC⟩, stC⟩
  have hA : Ch b A P.U := ⟨⟨K.1, State.isArrayOf_alike al K.2.1, K.2.2, by omega⟩, hty⟩
  have hS : StaticIs P.U ST "COMPACT_STRINGS" "Z" (.int z) := by
    obtain ⟨cfS, iS, kS, fS, st, cS, t1, t2, t3, t4, t5, t6, t7⟩ := S
    exact StaticIs.there (s := { Z with heap := P.U.heap }) ⟨cfS, iS, kS, fS, st, cS, t1, t2, t3, t4, t5, (fun q => by rw [q] at t6; cases t6), t7⟩ al rfl
  obtain ⟨v, B, X', ⟨⟨hv, E', V', q1, q2, q3, q4, q5, q6, q7, q8, q9, q10, q11⟩, hl, hc, hs⟩, st⟩ := New1.pays x D fV fC b A z (tab_of (moved hZ hw)) hfr hlo m meth c P g ig mk _ X hg hsize hdg hW hn ⟨r1, r2, rfl, hB, F1, F2, hA, hS, hz, l0, l2, hp⟩
  have al' : Z.vm.Alike B.U.vm := hZ.alike.trans X'.warmed.alike
  have hsz : E'.slots.size = D.slots.size := by
    obtain ⟨-, -, -, kB, w1, w2, w3⟩ := q1
    obtain ⟨kB', y1, y2⟩ := al'.2.2 _ _ e3
    rw [q2.2.1] at w1
    cases w1.symm.trans y1
    rw [w3, e5 i3, y2]
  refine ⟨v, B, X', ⟨_, ⟨hv, ?_, ⟨by omega, fun y cy hy hn' => q10 y cy (by simpa using hn') hy, fun y cy hy => ?_⟩, q11, ⟨E', _, q1.1, by rw [q2.2.1]; exact e2, by rw [q2.2.1]; exact e3, by rw [q2.1]; exact obV, fun _ => by rw [hsz]; exact e5 i3⟩,
    ⟨E', cfV, kV, iV, fV, q1.1, gV, stV, by rw [q2.1]; exact knV, by rw [q2.1]; exact obV, by rw [q2.2.1]; exact asV, q3⟩, ⟨E', cfC, kC, iC, fC, q1.1, gC, stC, by rw [q2.1]; exact knV, by rw [q2.1]; exact obV, by rw [q2.2.1]; exact asC, q4⟩,
    ⟨V', ⟨q5.1, State.isArrayOf_alike al'.symm q5.2.1, q5.2.2.1⟩, q6, by rw [← al'.findClass]; exact q7, q8, fun j hj => by have := q9 j hj; rwa [Nat.zero_add] at this⟩, fun O n d w F n1 n2 => ?_⟩, hl, hc, hs⟩, st⟩
  · intro y hy
    simp only [List.mem_cons, List.not_mem_nil, or_false] at hy
    rcases hy with rfl | rfl <;> rfl
  · by_cases q : y = x
    · subst q
      cases hD.symm.trans hy
      exact ⟨E', q1.1, q2.2.1, q2.1, hsz⟩
    · exact ⟨cy, q10 y cy q hy, rfl, rfl, rfl⟩
  · obtain ⟨D3, cf, k, i, f, g1, g2, g3, g4, g5, g6, g7⟩ := F
    cases hD.symm.trans g1
    simp only [RoadKit.slotOf, g2, gV, gC, Option.map_some, Option.getD_some] at n1 n2
    exact ⟨E', cf, k, i, f, q1.1, g2, g3, by rw [q2.1]; exact g4, by rw [q2.1]; exact g5, by rw [q2.2.1]; exact g6, by rw [q2.2.2 f.slot (by simp [n1, n2])]; exact g7⟩
end StrChars.Road
namespace StrChars.Road
open Jvm Sem ClassFile Op Lib Jvm.Stand Jvm.Free Jvm.Free.XT
/-- WHAT COMES BACK, the byte[] as a list of values -/
def QA (Z : State) (x : Addr) (zn : Int32) (cs : List Int32) (h : Heap) (v : Option Value) (h' : Heap) (L : List Loc) : Prop := v = none ∧ (∀ y ∈ L, y.base = x) ∧ RoadKit.Keep h h' [x] ∧ h'.size = h.size + 1 ∧ RoadKit.Exa Z h' x ST ∧ RoadKit.Fld Z h' x ST "value" "[B" (.ref h.size) ∧ RoadKit.Fld Z h' x ST "coder" "B" (.int 0) ∧
  (∃ kb, Z.vm.findClass "[B" = some kb ∧ RoadKit.Arv Z h' h.size kb .byte zn (cs.map fun c => .int (lo8 c)) (.int 0)) ∧
  ∀ (O n d : String) (w : Value), RoadKit.Fld Z h x O n d w → RoadKit.slotOf Z O n d ≠ RoadKit.slotOf Z ST "value" "[B" → RoadKit.slotOf Z O n d ≠ RoadKit.slotOf Z ST "coder" "B" → RoadKit.Fld Z h' x O n d w
/-- **new String(chars) AT A CALL, THE ARRAYS AS LISTS**: the char[] at b holds cs, not empty, no char above 255 -/
theorem backArv {p : Program} {l : Launch} {e : Env} {R : Room} {s : State} {args : Array Value} {below : List Frame} {len W : Nat} {Z : State} {a0 : Array Value} {h : Heap} (hZ : Z.Warmed39 s.vm) (hw : ∀ d ∈ words, d.before a0 Z = true) {kI : Nat} (wi : (Jvm.Cond.instantiable ST kI).before a0 Z = true)
    {x b : Addr} {k : ClassId} {zn z : Int32} {cs : List Int32} {dv v0 c0 : Value} (E : RoadKit.Exa Z h x ST) (V : RoadKit.Fld Z h x ST "value" "[B" v0) (C : RoadKit.Fld Z h x ST "coder" "B" c0) (K : RoadKit.Arv Z h b k .char zn (cs.map Value.int) dv) (S : RoadKit.Sta Z h ST "COMPACT_STRINGS" "Z" (.int z)) (hz : ¬ z = 0)
    (hlen : zn.toNatClampNeg = cs.length) (h0 : 0 < cs.length) (hbig : cs.length ≤ 536870912) (hall : ∀ c ∈ cs, ¬ 255 < c) (hfr : 4 ≤ R.frames) (hlo : W + 65 ≤ R.locals) :
    Back l R p e below s args New1.yN len W (fun P a => a = #[.ref x, .ref b] ∧ P.U.heap = h ∧ P.cells + 1 ≤ R.cells ∧ P.slots + cs.length ≤ R.slots)
      (fun P _ v B => ∃ L, QA Z x zn cs h v B.U.heap L ∧ B.locs = P.locs ++ L ∧ B.cells = P.cells + 1 ∧ B.slots = P.slots + cs.length) := by
  obtain ⟨A, K1, K2, K3, K4, K5, K6⟩ := K
  have e : A.slots.size = cs.length := K3.trans hlen
  have hat : ∀ (i : Nat) (hi : i < cs.length), A.slots[i]? = some (.int cs[i]) := fun i hi => by rw [K5 i (by omega)]; simp [List.getD_eq_getElem?_getD, hi]
  have hcv : ∀ (i : Nat) (hi : i < cs.length), cv A i = cs[i] := fun i hi => by unfold cv; rw [hat i hi]
  have hty : Typed .char A := fun i v hv => by
    have hi : i < A.slots.size := (Array.getElem?_eq_some_iff.mp hv).1
    have q := K5 i hi
    rw [hv] at q
    rw [Option.some.inj q]
    exact K6 i hi
  refine Back.mono (back hZ hw wi E V C K1 hty S hz (by omega) (by omega) (fun i hi => by rw [hcv i (by omega)]; exact hall _ (List.getElem_mem _)) hfr hlo) (fun P a hp => ⟨hp.1, hp.2.1, hp.2.2.1, by rw [e]; exact hp.2.2.2⟩) (fun P a v B hp hq => ?_)
  obtain ⟨L, ⟨q1, q2, q3, q4, q5, q6, q7, ⟨V', v1, v2, v3, v4, v5⟩, q9⟩, hl, hc, hs⟩ := hq
  refine ⟨L, ⟨q1, q2, q3, q4, q5, q6, q7, ⟨V'.cls, v3, V', v1, rfl, by rw [v4, e, hlen], K4, fun i hi => ?_, fun i hi => ?_⟩, q9⟩, hl, hc, by rw [hs, e]⟩
  · have hi' : i < cs.length := by omega
    rw [v5 i (by omega), hcv i hi']; simp [List.getD_eq_getElem?_getD, hi']
  · have hi' : i < cs.length := by omega
    simp only [List.getD_eq_getElem?_getD, List.getElem?_map, List.getElem?_eq_getElem hi', Option.map_some, Option.getD_some]
    exact fits_lo8 _
end StrChars.Road
namespace StrChars.Road
open Jvm Sem ClassFile Op Lib Jvm.Stand Jvm.Free Jvm.Free.XT
/-- WHAT COMES BACK, in the writer's own shape -/
def QV (Z : State) (x : Addr) (N : Int32) (bs : List Int32) (h : Heap) (n0 : Nat) (v : Option Value) (h' : Heap) (L : List Loc) : Prop := v = none ∧ RoadKit.Fr n0 L ∧ RoadKit.Keep h h' [x] ∧ RoadKit.Exa Z h' x ST ∧ RoadKit.Fld Z h' x ST "coder" "B" (.int 0) ∧
  ∃ (t : Addr) (kb : ClassId), n0 ≤ t ∧ h.size ≤ t ∧ ¬ t = x ∧ RoadKit.Fld Z h' x ST "value" "[B" (.ref t) ∧ RoadKit.Arv Z h' t kb .byte N (bs.map Value.int) (.int 0)
/-- **new String(chars) AT A CALL, FOR THE WRITER**: a char[] of n known ints, each 0 to 255 -/
theorem backV {p : Program} {l : Launch} {e : Env} {R : Room} {s : State} {args : Array Value} {below : List Frame} {len W : Nat} {Z : State} {a0 : Array Value} {h : Heap} (hZ : Z.Warmed39 s.vm) (hw : ∀ d ∈ words, d.before a0 Z = true) {kI : Nat} (wi : (Jvm.Cond.instantiable ST kI).before a0 Z = true)
    {x b : Addr} {kC : ClassId} {cs bs : List Int32} {d v0 c0 : Value} {z N : Int32} {n n0 : Nat} (hx0 : n0 ≤ x) (hh0 : n0 ≤ h.size) (E : RoadKit.Exa Z h x ST) (V : RoadKit.Fld Z h x ST "value" "[B" v0) (C : RoadKit.Fld Z h x ST "coder" "B" c0) (K : RoadKit.Arv Z h b kC .char N (cs.map Value.int) d) (S : RoadKit.Sta Z h ST "COMPACT_STRINGS" "Z" (.int z)) (hz : ¬ z = 0)
    (hn : cs.length = n) (hN : N = Int32.ofNat n) (l0 : 0 < n) (l2 : n ≤ 4000) (hp : ∀ c ∈ cs, ¬ c < 0 ∧ ¬ (255 : Int32) < c) (hb : bs = cs.map (fun c => c.toInt8.toInt32)) (hfr : 4 ≤ R.frames) (hlo : W + 65 ≤ R.locals) :
    Back l R p e below s args (⟨"java/lang/String", "<init>", "([C)V"⟩ : MethodName) len W (fun P a => a = #[.ref x, .ref b] ∧ P.U.heap = h ∧ P.cells + 1 ≤ R.cells ∧ P.slots + n ≤ R.slots)
      (fun P _ v B => ∃ L, QV Z x N bs h n0 v B.U.heap L ∧ B.locs = P.locs ++ L ∧ B.cells = P.cells + 1 ∧ B.slots = P.slots + n) := by
  subst hn hN hb
  refine Back.mono (backArv hZ hw wi E V C K S hz (n32 (by omega)) l0 (by omega) (fun c hc => (hp c hc).2) hfr hlo) (fun P a hp => hp) (fun P a v B hp hq => ?_)
  obtain ⟨L, ⟨q1, q2, q3, q4, q5, q6, q7, ⟨kb, v1, v2⟩, q9⟩, hl, hc, hs⟩ := hq
  exact ⟨L, ⟨q1, fun y hy => by rw [q2 y hy]; exact hx0, q3, q5, q7, h.size, kb, hh0, Nat.le_refl _, Nat.ne_of_gt E.lt, q6, by rw [List.map_map]; exact v2⟩, hl, hc, hs⟩
end StrChars.Road
end Jvm.Pilot.@@N@@
namespace Jvm.RoadKit
open Sem ClassFile Op Lib Jvm.Stand Jvm.Free Jvm.LawKit
section New
variable {p : Program} {l : Launch} {e : Env} {R : Room} {s : State} {m : MethodId} {args : Array Value} {below : List Frame} {meth : Method} {c : Code} {T : State} {locs : List Loc} {cells slots : Nat}
theorem retI (X : Stand p l e R s m args below meth c T locs cells slots) (hx : p.tables.exec = Jvm.exec) {pc : Nat} {Ls : Array Slot} {z : Int32} {rest : List Value} (hret : meth.sig.returnType = some .int) (hd : decode c.code pc = .ok (.ireturn, 1)) {fs : List Frame}
    (hl : ∀ (f : JFrame) (acts : List Action), f.method = m → f.locked = none → f.entered = [] → (doReturn e (T.setTop f) acts (some (.int z))).1 = T.setFrames fs) : Steps p.tables e below (T.setTop (mkF m pc Ls (.int z :: rest))) (T.setFrames fs) := by
  have hm' : T.vm.method? m = some meth := X.method'
  have hn : narrow .int (.int z) = .int z := rfl
  show Steps p.tables e below (T.setTop { method := m, pc := pc, locals := Ls, stack := _ :: rest, locked := none }) _
  jvm_step X.here [X.here.top, hx, hd, hm', hret, hn]
  first | (intro acts; rw [hl _ acts rfl rfl rfl]) | rw [hl _ _ rfl rfl rfl]
  exact Steps.refl _
end New
end Jvm.RoadKit
namespace Jvm.Pilot.@@N@@
open Jvm Jvm.ClassFile Sem Op Lib Jvm.Free Jvm.Stand Jvm.LawKit Jvm.RoadKit Bundle Jvm.Pilot.@@N@@.Jvm.D
/-- every run from the state T with the frame f on top is a run from s0 with f0 -/
def GoTo (tb : Tables) (e : Env) (below : List Frame) (s0 : State) (f0 : JFrame) (T : State) (f : JFrame) : Prop := ∀ t, Steps tb e below (T.setTop f) t → Steps tb e below (s0.setTop f0) t
theorem own_cI (x : Int32) : (Value.int x).category = 1 := rfl
theorem own_cJ (x : Int64) : (Value.long x).category = 2 := rfl
theorem own_cR (x : Addr) : (Value.ref x).category = 1 := rfl
theorem own_cN : Value.null.category = 1 := rfl
theorem own_zlt {Z : State} {n0 : Nat} {h : Heap} {a : Addr} (O : Old Z n0 h) (q : a < Z.heap.size) : a < n0 := O.1 ▸ q
theorem own_selfSel {s : State} {args : Array Value} {C : String} {y : MethodName} (hsel : (Cond.selects C y y).before args s = true) (hpriv : s.PrivateAt y) (hinst : (Cond.instanceMethod y).before args s = true) (hy : y.cls ≠ "java/lang/invoke/MethodHandle" ∧ y.cls ≠ "java/lang/invoke/VarHandle") : (Cond.selects y.cls y y).before args s = true := by
  obtain ⟨c2, r2, m2, -, -, q3, -, kP, hkP, hkPi⟩ := Cond.selects_spec hsel
  exact selects_self_of_private (findClass_of_methodNamed q3) hkP hkPi hpriv hinst hy
theorem own_sameSelf {s : State} {args : Array Value} {C : String} {y z : MethodName} (hsel : (Cond.selects C z z).before args s = true) (hzy : z.cls = y.cls) (hinst : (Cond.instanceMethod y).before args s = true) (hy : y.cls ≠ "java/lang/invoke/MethodHandle" ∧ y.cls ≠ "java/lang/invoke/VarHandle") : (Cond.sameMethod y.cls y.cls y.name y.desc).before args s = true := by
  obtain ⟨c2, r2, m2, -, -, q3, -, kP, hkP, hkPi⟩ := Cond.selects_spec hsel
  obtain ⟨mk, methM, hnamed, hmethM, -, -⟩ := Cond.instanceMethod_spec hinst
  have h1 := findClass_of_methodNamed q3
  have h2 := findClass_of_methodNamed hnamed
  rw [hzy] at h1
  have hcls : mk.cls = m2.cls := Option.some.inj (h2.symm.trans h1)
  have hf := State.methodFound?_of_named hnamed hy
  obtain ⟨yc, yn, yd⟩ := y
  dsimp only at h1 h2 hf ⊢
  simp only [Cond.before, Cond.holds, Cond.value, h2, hf, hnamed, hcls, hkP]
  simp [hkPi]
theorem own_notFace {s : State} {args : Array Value} {C : String} {x y z : MethodName} (hsel : (Cond.selects C x z).before args s = true) (hzy : z.cls = y.cls) : NotFace s y := fun r0 h0 => by
  obtain ⟨c2, r2, m2, -, -, q3, -, kP, hkP, hkPi⟩ := Cond.selects_spec hsel
  have h1 := findClass_of_methodNamed q3
  rw [hzy] at h1
  have h2 := findClass_of_methodNamed h0
  have e : m2.cls = r0.cls := Option.some.inj (h1.symm.trans h2)
  exact ⟨kP, e ▸ hkP, hkPi⟩
theorem own_le {Z : State} {n0 : Nat} {h : Heap} (O : Old Z n0 h) : n0 ≤ h.size := O.1 ▸ O.2.1
theorem own_mono {p : Program} {l : Launch} {e : Env} {R : Room} {s : State} {m : MethodId} {args : Array Value} {below : List Frame} {meth : Method} {c : Code} {T : State} {locs : List Loc} {cells slots cells' slots' : Nat} (X : Stand p l e R s m args below meth c T locs cells slots) (h1 : cells ≤ cells') (h2 : slots ≤ slots') : Stand p l e R s m args below meth c T locs cells' slots' := { X with same := X.same.mono h1 h2 }
theorem own_NSroot {Z : State} {a0 : Array Value} {O K : String} {n : Nat} (w : (Jvm.Cond.noSuperclass O).before a0 Z = true) (wk : (Jvm.Cond.instantiable K n).before a0 Z = true) (hn : O ≠ K) : NS Z O K := by
  obtain ⟨c, k, h1, h2, h3, -, -⟩ := Cond.noSuperclass_spec w
  obtain ⟨t, k2, g1, -⟩ := Cond.instantiable_spec wk
  have ne := ids_ne h1 g1 hn
  refine ⟨c, t, h1, g1, fun fuel => ?_⟩
  cases fuel with
  | zero => rfl
  | succ f => simp [Vm.isSubclassAux, ne, h2, h3]
theorem own_NSno {Z : State} {a0 : Array Value} {C S K : String} {n : Nat} (w : (Jvm.Cond.superclass C S).before a0 Z = true) (wk : (Jvm.Cond.instantiable K n).before a0 Z = true) (nn : NS Z C K) (hn : C ≠ K) : ∃ c t, Z.vm.findClass C = some c ∧ Z.vm.findClass K = some t ∧ Z.vm.assignable c t = false := by
  obtain ⟨c, t, h0, g0, n3⟩ := nn
  obtain ⟨p, k, kp, h1, h2, h3, h4, h5, -, h7⟩ := Cond.superclass_spec h0 w
  obtain ⟨t', k', g1, g2, g5, g7, -⟩ := Cond.instantiable_spec wk
  cases g0.symm.trans g1
  have ne := ids_ne h0 g0 hn
  refine ⟨c, t, h0, g0, ?_⟩
  show Z.vm.assignableAux (255 + 1) c t = false
  have g8 : k'.isInterface = false := (Bool.or_eq_false_iff.mp g7).1
  simp [Vm.assignableAux, ne, h2, g2, h5, g5, g8, Vm.isSubclass, n3]
def own_Mir (Z : State) (C : String) (m : Addr) : Prop := ∃ (c : ClassId) (k : Class), Z.vm.findClass C = some c ∧ Z.vm.classes[c]? = some k ∧ k.mirror = some m
theorem own_mir {Z s : State} {C : String} {mr : Addr} {args : Array Value} (hZ : Z.Warmed39 s.vm) (M : own_Mir Z C mr) : (Term.mirror C).eval args s none [] s = some (.ref mr) := by
  obtain ⟨c, k, m1, m2, m3⟩ := M
  obtain ⟨k', q, ek⟩ := hZ.alike.2.2 _ _ m2
  have h1 : s.vm.findClass C = some c := by rw [hZ.alike.findClass]; exact m1
  have h2 : k'.mirror = some mr := by rw [ek]; exact m3
  simp [Term.eval, h1, q, h2]
theorem own_gcls {p : Program} {l : Launch} {e : Env} {R : Room} {s : State} {m : MethodId} {args : Array Value} {below : List Frame} {meth : Method} {c : Code} {T : State} {locs : List Loc} {cells slots : Nat} {Z : State} {h : Heap} {a : Addr} (X : Stand p l e R s m args below meth c T locs cells slots) (hx : p.tables.exec = Jvm.exec) (hZ : Z.Warmed39 s.vm) {a0 : Array Value} {own C : String} {index : Nat} (hown : s.vm.findClass own = some m.cls)
    (w1 : (Jvm.Cond.methodLink own index ⟨"java/lang/Object", "getClass", "()Ljava/lang/Class;"⟩).before a0 Z = true) (w2 : (Jvm.Cond.declares ⟨"java/lang/Object", "getClass", "()Ljava/lang/Class;"⟩).before a0 Z = true) (w3 : (Jvm.Cond.noSuperclass "java/lang/Object").before a0 Z = true) (w4 : (Jvm.Cond.selects C ⟨"java/lang/Object", "getClass", "()Ljava/lang/Class;"⟩ ⟨"java/lang/Object", "getClass", "()Ljava/lang/Class;"⟩).before a0 Z = true)
    (w5 : (Jvm.Cond.instanceMethod ⟨"java/lang/Object", "getClass", "()Ljava/lang/Class;"⟩).before a0 Z = true) (w6 : (Jvm.Cond.native ⟨"java/lang/Object", "getClass", "()Ljava/lang/Class;"⟩).before a0 Z = true) (eT : T.heap = h) (E : Exa Z h a C) {mr : Addr} (M : own_Mir Z C mr)
    {g : JFrame} (hg : g.method = m) (hsize : g.locals.size = c.maxLocals) {rest : List Value} (hs : g.stack = .ref a :: rest) (hd : decode c.code g.pc = .ok (.invokevirtual index, 3)) (hf : 1 ≤ R.frames) {W : Nat} (hW : 2 * g.monitorRoom + (rest.map fun v => v.category).sum ≤ W) (hl : W + (nativeFrameWords "java/lang/Object" "getClass" 1 + 11) ≤ R.locals) :
    ∃ T', Stand p l e R s m args below meth c T' locs cells slots ∧ T'.heap = h ∧ ∀ target, Steps p.tables e below (T'.setTop { g with pc := g.pc + 3, stack := .ref mr :: rest }) target → Steps p.tables e below (T.setTop g) target := by
  obtain ⟨cB, kB, i1, i2, i3⟩ := isOf hZ eT E
  obtain ⟨cc, kc, m1, m2, m3⟩ := M
  have j1 : s.vm.findClass C = some cc := by rw [hZ.alike.findClass]; exact m1
  obtain rfl : cc = cB := Option.some.inj (j1.symm.trans i1)
  obtain ⟨k', q, ek⟩ := hZ.alike.2.2 _ _ m2
  obtain ⟨vm', X', st⟩ := X.getClassOf hx hown (mvT hZ w1) (mvT hZ w2) (nf_top (args := #[]) (mvT hZ w3)) (mvT hZ w4) (mvT hZ w5) (mvT hZ w6) j1 i3 q (by rw [ek]; exact m3) hg hsize hs hd hf (by omega)
  exact ⟨_, X', eT, st⟩
theorem own_cat {v : Value} (h : v.isRef = true) : v.category = 1 := by cases v <;> simp_all [Value.isRef, Value.category]
theorem own_fits_ref {ty : FieldType} {v : Value} (ht : refKind ty = true) (h : v.isRef = true) : fits ty v = true := by cases ty <;> cases v <;> simp_all [refKind, fits, Value.isRef]
theorem own_all0 : ∀ c ∈ ([] : List Int32), ¬ c < 0 ∧ ¬ (255 : Int32) < c := fun _ q => nomatch q
theorem own_allC {a : Int32} {L : List Int32} (h : ¬ a < 0 ∧ ¬ (255 : Int32) < a) (r : ∀ c ∈ L, ¬ c < 0 ∧ ¬ (255 : Int32) < c) : ∀ c ∈ a :: L, ¬ c < 0 ∧ ¬ (255 : Int32) < c := fun x z => (List.mem_cons.mp z).elim (fun u => u ▸ h) (r x)
theorem own_up {cs : List Int32} (h : ∀ c ∈ cs, ¬ c < 0 ∧ ¬ (255 : Int32) < c) : ∀ c ∈ cs, ¬ c < 0 ∧ ¬ (65535 : Int32) < c := fun c hc => ⟨(h c hc).1, fun q => (h c hc).2 (by rw [Int32.lt_iff_toInt_lt] at q ⊢; have e1 : (65535 : Int32).toInt = 65535 := rfl; have e2 : (255 : Int32).toInt = 255 := rfl; omega)⟩
theorem own_chr (x : Int32) {z : Int32} (h : z = ((x &&& (255 : Int32)).toUInt32.toUInt16.toUInt32.toInt32)) : (¬ z < 0 ∧ ¬ (255 : Int32) < z) ∧ nar .char z = z := by
  subst h
  rw [i2c_mask]
  have h1 : (x &&& (255 : Int32)).toInt = x.toInt % 2 ^ 8 := Jvm.Kit.i32_mask x 255 (k := 8) (by decide) (by decide)
  have e0 : (0 : Int32).toInt = 0 := by decide
  have e1 : (255 : Int32).toInt = 255 := by decide
  refine ⟨⟨?_, ?_⟩, i2c_mask x⟩ <;> rw [Int32.lt_iff_toInt_lt] <;> omega
theorem own_eqv {v : Option Value} {cs ds : List Int32} (h : (v = some (.int 1) ∧ cs = ds) ∨ (v = some (.int 0) ∧ ¬ cs = ds)) : v = some (.int (if cs = ds then (1 : Int32) else 0)) := by
  rcases h with ⟨rfl, h⟩ | ⟨rfl, h⟩
  · rw [if_pos h]
  · rw [if_neg h]
section OwnStr
variable {Z : State} {h h' : Heap} {x t a : Addr} {kb : ClassId} {cs : List Int32} {sl : Nat} {v : Value} {ws : List Addr}
/-- the String at x, her byte[] at t, spells cs -/
def own_Str (Z : State) (h : Heap) (x t : Addr) (kb : ClassId) (cs : List Int32) : Prop :=
  Exa Z h x "java/lang/String" ∧ Fld Z h x "java/lang/String" "value" "[B" (.ref t) ∧ Fld Z h x "java/lang/String" "coder" "B" (.int 0) ∧ Arv Z h t kb .byte (Int32.ofNat cs.length) ((cs.map fun c => c.toInt8.toInt32).map Value.int) (.int 0) ∧ (∀ c ∈ cs, ¬ c < 0 ∧ ¬ (255 : Int32) < c) ∧ cs.length ≤ 4000
theorem own_Str.ext (F : own_Str Z h x t kb cs) (E : Ext h h') : own_Str Z h' x t kb cs := ⟨F.1.ext E, F.2.1.ext E, F.2.2.1.ext E, F.2.2.2.1.ext E, F.2.2.2.2⟩
theorem own_Str.keep (F : own_Str Z h x t kb cs) (K : Keep h h' ws) (q : x ∉ ws) (r : t ∉ ws) : own_Str Z h' x t kb cs := ⟨F.1.keep K, F.2.1.keep K q, F.2.2.1.keep K q, F.2.2.2.1.keep K r, F.2.2.2.2⟩
theorem own_Str.other (F : own_Str Z h x t kb cs) (W : Wr h h' a sl v) (q : x ≠ a) (r : t ≠ a) : own_Str Z h' x t kb cs := ⟨F.1.wr W, F.2.1.other W (Or.inl q), F.2.2.1.other W (Or.inl q), F.2.2.2.1.other W r, F.2.2.2.2⟩
/-- null, or a String -/
def own_NS (Z : State) (h : Heap) (v : Value) : Prop := v = .null ∨ ∃ a, v = .ref a ∧ Exa Z h a "java/lang/String"
theorem own_NS.ref (F : own_NS Z h v) : v.isRef = true := by rcases F with rfl | ⟨a, rfl, -⟩ <;> rfl
theorem own_NS.ext (F : own_NS Z h v) (E : Ext h h') : own_NS Z h' v := F.imp id fun ⟨a, e, X⟩ => ⟨a, e, X.ext E⟩
theorem own_NS.wr {w : Value} (F : own_NS Z h v) (W : Wr h h' a sl w) : own_NS Z h' v := F.imp id fun ⟨a, e, X⟩ => ⟨a, e, X.wr W⟩
theorem own_NS.keep (F : own_NS Z h v) (K : Keep h h' ws) : own_NS Z h' v := F.imp id fun ⟨a, e, X⟩ => ⟨a, e, X.keep K⟩
end OwnStr
theorem own_d_method_2_code_0 : decode method_2_code 0 = .ok (.iload_n 0, 1) := by decide +kernel
theorem own_d_method_2_code_1 : decode method_2_code 1 = .ok (.ifCond .ne 7, 3) := by decide +kernel
theorem own_d_method_2_code_4 : decode method_2_code 4 = .ok (.getstatic 7, 3) := by decide +kernel
theorem own_d_method_2_code_7 : decode method_2_code 7 = .ok (.areturn, 1) := by decide +kernel
theorem own_d_method_2_code_8 : decode method_2_code 8 = .ok (.iload_n 0, 1) := by decide +kernel
theorem own_d_method_2_code_9 : decode method_2_code 9 = .ok (.iconst 1, 1) := by decide +kernel
theorem own_d_method_2_code_10 : decode method_2_code 10 = .ok (.if_icmp .ne 7, 3) := by decide +kernel
theorem own_d_method_2_code_13 : decode method_2_code 13 = .ok (.getstatic 13, 3) := by decide +kernel
theorem own_d_method_2_code_16 : decode method_2_code 16 = .ok (.areturn, 1) := by decide +kernel
theorem own_d_method_2_code_17 : decode method_2_code 17 = .ok (.iload_n 0, 1) := by decide +kernel
theorem own_d_method_2_code_18 : decode method_2_code 18 = .ok (.iconst 2, 1) := by decide +kernel
theorem own_d_method_2_code_19 : decode method_2_code 19 = .ok (.if_icmp .ne 7, 3) := by decide +kernel
theorem own_d_method_2_code_22 : decode method_2_code 22 = .ok (.getstatic 16, 3) := by decide +kernel
theorem own_d_method_2_code_25 : decode method_2_code 25 = .ok (.areturn, 1) := by decide +kernel
theorem own_d_method_2_code_26 : decode method_2_code 26 = .ok (.iload_n 0, 1) := by decide +kernel
theorem own_d_method_2_code_27 : decode method_2_code 27 = .ok (.iconst 3, 1) := by decide +kernel
theorem own_d_method_2_code_28 : decode method_2_code 28 = .ok (.if_icmp .ne 7, 3) := by decide +kernel
theorem own_d_method_2_code_31 : decode method_2_code 31 = .ok (.getstatic 19, 3) := by decide +kernel
theorem own_d_method_2_code_34 : decode method_2_code 34 = .ok (.areturn, 1) := by decide +kernel
theorem own_d_method_2_code_35 : decode method_2_code 35 = .ok (.iload_n 0, 1) := by decide +kernel
theorem own_d_method_2_code_36 : decode method_2_code 36 = .ok (.iconst 4, 1) := by decide +kernel
theorem own_d_method_2_code_37 : decode method_2_code 37 = .ok (.if_icmp .ne 7, 3) := by decide +kernel
theorem own_d_method_2_code_40 : decode method_2_code 40 = .ok (.getstatic 22, 3) := by decide +kernel
theorem own_d_method_2_code_43 : decode method_2_code 43 = .ok (.areturn, 1) := by decide +kernel
theorem own_d_method_2_code_44 : decode method_2_code 44 = .ok (.iload_n 0, 1) := by decide +kernel
theorem own_d_method_2_code_45 : decode method_2_code 45 = .ok (.iconst 5, 1) := by decide +kernel
theorem own_d_method_2_code_46 : decode method_2_code 46 = .ok (.if_icmp .ne 7, 3) := by decide +kernel
theorem own_d_method_2_code_49 : decode method_2_code 49 = .ok (.getstatic 25, 3) := by decide +kernel
theorem own_d_method_2_code_52 : decode method_2_code 52 = .ok (.areturn, 1) := by decide +kernel
theorem own_d_method_2_code_53 : decode method_2_code 53 = .ok (.iload_n 0, 1) := by decide +kernel
theorem own_d_method_2_code_54 : decode method_2_code 54 = .ok (.bipush 6, 2) := by decide +kernel
theorem own_d_method_2_code_56 : decode method_2_code 56 = .ok (.if_icmp .ne 7, 3) := by decide +kernel
theorem own_d_method_2_code_59 : decode method_2_code 59 = .ok (.getstatic 28, 3) := by decide +kernel
theorem own_d_method_2_code_62 : decode method_2_code 62 = .ok (.areturn, 1) := by decide +kernel
theorem own_d_method_2_code_63 : decode method_2_code 63 = .ok (.iload_n 0, 1) := by decide +kernel
theorem own_d_method_2_code_64 : decode method_2_code 64 = .ok (.bipush 7, 2) := by decide +kernel
theorem own_d_method_2_code_66 : decode method_2_code 66 = .ok (.if_icmp .ne 7, 3) := by decide +kernel
theorem own_d_method_2_code_69 : decode method_2_code 69 = .ok (.getstatic 31, 3) := by decide +kernel
theorem own_d_method_2_code_72 : decode method_2_code 72 = .ok (.areturn, 1) := by decide +kernel
theorem own_d_method_2_code_73 : decode method_2_code 73 = .ok (.iload_n 0, 1) := by decide +kernel
theorem own_d_method_2_code_74 : decode method_2_code 74 = .ok (.bipush 8, 2) := by decide +kernel
theorem own_d_method_2_code_76 : decode method_2_code 76 = .ok (.if_icmp .ne 7, 3) := by decide +kernel
theorem own_d_method_2_code_79 : decode method_2_code 79 = .ok (.getstatic 34, 3) := by decide +kernel
theorem own_d_method_2_code_82 : decode method_2_code 82 = .ok (.areturn, 1) := by decide +kernel
theorem own_d_method_2_code_83 : decode method_2_code 83 = .ok (.iload_n 0, 1) := by decide +kernel
theorem own_d_method_2_code_84 : decode method_2_code 84 = .ok (.bipush 9, 2) := by decide +kernel
theorem own_d_method_2_code_86 : decode method_2_code 86 = .ok (.if_icmp .ne 7, 3) := by decide +kernel
theorem own_d_method_2_code_89 : decode method_2_code 89 = .ok (.getstatic 37, 3) := by decide +kernel
theorem own_d_method_2_code_92 : decode method_2_code 92 = .ok (.areturn, 1) := by decide +kernel
theorem own_d_method_2_code_93 : decode method_2_code 93 = .ok (.iload_n 0, 1) := by decide +kernel
theorem own_d_method_2_code_94 : decode method_2_code 94 = .ok (.bipush 10, 2) := by decide +kernel
theorem own_d_method_2_code_96 : decode method_2_code 96 = .ok (.if_icmp .ne 7, 3) := by decide +kernel
theorem own_d_method_2_code_99 : decode method_2_code 99 = .ok (.getstatic 40, 3) := by decide +kernel
theorem own_d_method_2_code_102 : decode method_2_code 102 = .ok (.areturn, 1) := by decide +kernel
theorem own_d_method_2_code_103 : decode method_2_code 103 = .ok (.iload_n 0, 1) := by decide +kernel
theorem own_d_method_2_code_104 : decode method_2_code 104 = .ok (.bipush 11, 2) := by decide +kernel
theorem own_d_method_2_code_106 : decode method_2_code 106 = .ok (.if_icmp .ne 7, 3) := by decide +kernel
theorem own_d_method_2_code_109 : decode method_2_code 109 = .ok (.getstatic 43, 3) := by decide +kernel
theorem own_d_method_2_code_112 : decode method_2_code 112 = .ok (.areturn, 1) := by decide +kernel
theorem own_d_method_2_code_113 : decode method_2_code 113 = .ok (.iload_n 0, 1) := by decide +kernel
theorem own_d_method_2_code_114 : decode method_2_code 114 = .ok (.bipush 12, 2) := by decide +kernel
theorem own_d_method_2_code_116 : decode method_2_code 116 = .ok (.if_icmp .ne 7, 3) := by decide +kernel
theorem own_d_method_2_code_119 : decode method_2_code 119 = .ok (.getstatic 46, 3) := by decide +kernel
theorem own_d_method_2_code_122 : decode method_2_code 122 = .ok (.areturn, 1) := by decide +kernel
theorem own_d_method_2_code_123 : decode method_2_code 123 = .ok (.iload_n 0, 1) := by decide +kernel
theorem own_d_method_2_code_124 : decode method_2_code 124 = .ok (.bipush 13, 2) := by decide +kernel
theorem own_d_method_2_code_126 : decode method_2_code 126 = .ok (.if_icmp .ne 7, 3) := by decide +kernel
theorem own_d_method_2_code_129 : decode method_2_code 129 = .ok (.getstatic 49, 3) := by decide +kernel
theorem own_d_method_2_code_132 : decode method_2_code 132 = .ok (.areturn, 1) := by decide +kernel
theorem own_d_method_2_code_133 : decode method_2_code 133 = .ok (.iload_n 0, 1) := by decide +kernel
theorem own_d_method_2_code_134 : decode method_2_code 134 = .ok (.bipush 14, 2) := by decide +kernel
theorem own_d_method_2_code_136 : decode method_2_code 136 = .ok (.if_icmp .ne 7, 3) := by decide +kernel
theorem own_d_method_2_code_139 : decode method_2_code 139 = .ok (.getstatic 52, 3) := by decide +kernel
theorem own_d_method_2_code_142 : decode method_2_code 142 = .ok (.areturn, 1) := by decide +kernel
theorem own_d_method_2_code_143 : decode method_2_code 143 = .ok (.iload_n 0, 1) := by decide +kernel
theorem own_d_method_2_code_144 : decode method_2_code 144 = .ok (.bipush 15, 2) := by decide +kernel
theorem own_d_method_2_code_146 : decode method_2_code 146 = .ok (.if_icmp .ne 7, 3) := by decide +kernel
theorem own_d_method_2_code_149 : decode method_2_code 149 = .ok (.getstatic 55, 3) := by decide +kernel
theorem own_d_method_2_code_152 : decode method_2_code 152 = .ok (.areturn, 1) := by decide +kernel
theorem own_d_method_2_code_153 : decode method_2_code 153 = .ok (.iload_n 0, 1) := by decide +kernel
theorem own_d_method_2_code_154 : decode method_2_code 154 = .ok (.bipush 16, 2) := by decide +kernel
theorem own_d_method_2_code_156 : decode method_2_code 156 = .ok (.if_icmp .ne 7, 3) := by decide +kernel
theorem own_d_method_2_code_159 : decode method_2_code 159 = .ok (.getstatic 58, 3) := by decide +kernel
theorem own_d_method_2_code_162 : decode method_2_code 162 = .ok (.areturn, 1) := by decide +kernel
theorem own_d_method_2_code_163 : decode method_2_code 163 = .ok (.iload_n 0, 1) := by decide +kernel
theorem own_d_method_2_code_164 : decode method_2_code 164 = .ok (.bipush 17, 2) := by decide +kernel
theorem own_d_method_2_code_166 : decode method_2_code 166 = .ok (.if_icmp .ne 7, 3) := by decide +kernel
theorem own_d_method_2_code_169 : decode method_2_code 169 = .ok (.getstatic 61, 3) := by decide +kernel
theorem own_d_method_2_code_172 : decode method_2_code 172 = .ok (.areturn, 1) := by decide +kernel
theorem own_d_method_2_code_173 : decode method_2_code 173 = .ok (.iload_n 0, 1) := by decide +kernel
theorem own_d_method_2_code_174 : decode method_2_code 174 = .ok (.bipush 18, 2) := by decide +kernel
theorem own_d_method_2_code_176 : decode method_2_code 176 = .ok (.if_icmp .ne 7, 3) := by decide +kernel
theorem own_d_method_2_code_179 : decode method_2_code 179 = .ok (.getstatic 64, 3) := by decide +kernel
theorem own_d_method_2_code_182 : decode method_2_code 182 = .ok (.areturn, 1) := by decide +kernel
theorem own_d_method_2_code_183 : decode method_2_code 183 = .ok (.getstatic 67, 3) := by decide +kernel
theorem own_d_method_2_code_186 : decode method_2_code 186 = .ok (.areturn, 1) := by decide +kernel
theorem own_d_prog_109_method_1_code_0 : decode prog_109_method_1_code 0 = .ok (.aload_n 0, 1) := by decide +kernel
theorem own_d_prog_109_method_1_code_1 : decode prog_109_method_1_code 1 = .ok (.invokespecial 1, 3) := by decide +kernel
theorem own_d_prog_109_method_1_code_4 : decode prog_109_method_1_code 4 = .ok (.return_, 1) := by decide +kernel
theorem own_d_prog_109_method_2_code_0 : decode prog_109_method_2_code 0 = .ok (.aload_n 0, 1) := by decide +kernel
theorem own_d_prog_109_method_2_code_1 : decode prog_109_method_2_code 1 = .ok (.aload_n 1, 1) := by decide +kernel
theorem own_d_prog_109_method_2_code_2 : decode prog_109_method_2_code 2 = .ok (.putfield 7, 3) := by decide +kernel
theorem own_d_prog_109_method_2_code_5 : decode prog_109_method_2_code 5 = .ok (.aload_n 0, 1) := by decide +kernel
theorem own_d_prog_109_method_2_code_6 : decode prog_109_method_2_code 6 = .ok (.iload_n 2, 1) := by decide +kernel
theorem own_d_prog_109_method_2_code_7 : decode prog_109_method_2_code 7 = .ok (.putfield 13, 3) := by decide +kernel
theorem own_d_prog_109_method_2_code_10 : decode prog_109_method_2_code 10 = .ok (.aload_n 0, 1) := by decide +kernel
theorem own_d_prog_109_method_2_code_11 : decode prog_109_method_2_code 11 = .ok (.iload_n 3, 1) := by decide +kernel
theorem own_d_prog_109_method_2_code_12 : decode prog_109_method_2_code 12 = .ok (.putfield 17, 3) := by decide +kernel
theorem own_d_prog_109_method_2_code_15 : decode prog_109_method_2_code 15 = .ok (.aload_n 0, 1) := by decide +kernel
theorem own_d_prog_109_method_2_code_16 : decode prog_109_method_2_code 16 = .ok (.aload 4, 2) := by decide +kernel
theorem own_d_prog_109_method_2_code_18 : decode prog_109_method_2_code 18 = .ok (.putfield 20, 3) := by decide +kernel
theorem own_d_prog_109_method_2_code_21 : decode prog_109_method_2_code 21 = .ok (.return_, 1) := by decide +kernel
theorem own_d_prog_109_method_3_code_0 : decode prog_109_method_3_code 0 = .ok (.aload_n 0, 1) := by decide +kernel
theorem own_d_prog_109_method_3_code_1 : decode prog_109_method_3_code 1 = .ok (.getfield 7, 3) := by decide +kernel
theorem own_d_prog_109_method_3_code_4 : decode prog_109_method_3_code 4 = .ok (.areturn, 1) := by decide +kernel
theorem own_d_prog_109_method_4_code_0 : decode prog_109_method_4_code 0 = .ok (.aload_n 0, 1) := by decide +kernel
theorem own_d_prog_109_method_4_code_1 : decode prog_109_method_4_code 1 = .ok (.getfield 13, 3) := by decide +kernel
theorem own_d_prog_109_method_4_code_4 : decode prog_109_method_4_code 4 = .ok (.ireturn, 1) := by decide +kernel
theorem own_d_prog_109_method_5_code_0 : decode prog_109_method_5_code 0 = .ok (.aload_n 0, 1) := by decide +kernel
theorem own_d_prog_109_method_5_code_1 : decode prog_109_method_5_code 1 = .ok (.getfield 17, 3) := by decide +kernel
theorem own_d_prog_109_method_5_code_4 : decode prog_109_method_5_code 4 = .ok (.ireturn, 1) := by decide +kernel
theorem own_d_prog_109_method_6_code_0 : decode prog_109_method_6_code 0 = .ok (.aload_n 0, 1) := by decide +kernel
theorem own_d_prog_109_method_6_code_1 : decode prog_109_method_6_code 1 = .ok (.getfield 20, 3) := by decide +kernel
theorem own_d_prog_109_method_6_code_4 : decode prog_109_method_6_code 4 = .ok (.areturn, 1) := by decide +kernel
theorem own_pd0 : parseMethodDescriptor "(I)Lcom/example/interfold/interfold/fidl/Token$Kind;" = some ⟨[.int], some (.object "com/example/interfold/interfold/fidl/Token$Kind")⟩ := by decide +kernel
theorem own_in_words : ∀ d ∈ StrChars.Road.words, d ∈ tables_1 := by decide +kernel
theorem own_pd1 : parseMethodDescriptor "([C)V" = some ⟨[(.array .char)], none⟩ := by decide +kernel
theorem own_pd2 : parseMethodDescriptor "()V" = some ⟨[], none⟩ := by decide +kernel
theorem own_pd3 : parseMethodDescriptor "(Lcom/example/interfold/interfold/fidl/Token$Kind;IILjava/lang/String;)V" = some ⟨[(.object "com/example/interfold/interfold/fidl/Token$Kind"), .int, .int, (.object "java/lang/String")], none⟩ := by decide +kernel
theorem own_pd4 : parseMethodDescriptor "()Lcom/example/interfold/interfold/fidl/Token$Kind;" = some ⟨[], some (.object "com/example/interfold/interfold/fidl/Token$Kind")⟩ := by decide +kernel
theorem own_pd5 : parseMethodDescriptor "()I" = some ⟨[], some .int⟩ := by decide +kernel
theorem own_pd6 : parseMethodDescriptor "()Ljava/lang/String;" = some ⟨[], some (.object "java/lang/String")⟩ := by decide +kernel
theorem own_pn_own_pick : plainName "com/example/interfold/interfold/fidl/TokenSetPinLaw" = true := by first | (simp [plainName, overriddenIn]; done) | decide +kernel
theorem own_ef_own_pick (m : MethodId) (i : Int32) : entryFrame m #[(.int i)] 1 = mkF m 0 #[.val (.int i)] [] := by first | (simp [entryFrame, mkF, argsToLocals, own_cI, own_cJ, own_cR, own_cN]; done) | rfl
abbrev own_F_own_pick (m : MethodId) (i : Int32) : JFrame := entryFrame m #[(.int i)] 1
def Q_own_pick (Z : State) (i : Int32) (u0 : Addr) (u1 : Addr) (u2 : Addr) (u3 : Addr) (u4 : Addr) (u5 : Addr) (u6 : Addr) (u7 : Addr) (u8 : Addr) (u9 : Addr) (u10 : Addr) (u11 : Addr) (u12 : Addr) (u13 : Addr) (u14 : Addr) (u15 : Addr) (u16 : Addr) (u17 : Addr) (u18 : Addr) (u19 : Addr) (h0 : Heap) (n0 : Nat) (v : Option Value) (h : Heap) (L : List Loc) : Prop := ∃ (kd : Addr), v = some (.ref kd) ∧ Fr n0 L ∧ h = h0
set_option maxRecDepth 65536 in
set_option maxHeartbeats 40000000 in
theorem own_pick (l : Launch) (Z : State) (a0 : Array Value) (hw : ∀ d ∈ tables_1, d.before a0 Z = true) (ws : List Jvm.Cond) (i : Int32) (u0 : Addr) (u1 : Addr) (u2 : Addr) (u3 : Addr) (u4 : Addr) (u5 : Addr) (u6 : Addr) (u7 : Addr) (u8 : Addr) (u9 : Addr) (u10 : Addr) (u11 : Addr) (u12 : Addr) (u13 : Addr) (u14 : Addr) (u15 : Addr) (u16 : Addr) (u17 : Addr) (u18 : Addr) (u19 : Addr) (h0 : Heap) (n0 : Nat) (O0 : Old Z n0 h0) (hp0 : Sta Z Z.heap "com/example/interfold/interfold/fidl/Token$Kind" "IDENTIFIER" "Lcom/example/interfold/interfold/fidl/Token$Kind;" (.ref u0)) (hp1 : Sta Z Z.heap "com/example/interfold/interfold/fidl/Token$Kind" "INTEGER" "Lcom/example/interfold/interfold/fidl/Token$Kind;" (.ref u1)) (hp2 : Sta Z Z.heap "com/example/interfold/interfold/fidl/Token$Kind" "FLOAT" "Lcom/example/interfold/interfold/fidl/Token$Kind;" (.ref u2)) (hp3 : Sta Z Z.heap "com/example/interfold/interfold/fidl/Token$Kind" "STRING" "Lcom/example/interfold/interfold/fidl/Token$Kind;" (.ref u3)) (hp4 : Sta Z Z.heap "com/example/interfold/interfold/fidl/Token$Kind" "DOC_COMMENT" "Lcom/example/interfold/interfold/fidl/Token$Kind;" (.ref u4)) (hp5 : Sta Z Z.heap "com/example/interfold/interfold/fidl/Token$Kind" "LEFT_PAREN" "Lcom/example/interfold/interfold/fidl/Token$Kind;" (.ref u5)) (hp6 : Sta Z Z.heap "com/example/interfold/interfold/fidl/Token$Kind" "RIGHT_PAREN" "Lcom/example/interfold/interfold/fidl/Token$Kind;" (.ref u6)) (hp7 : Sta Z Z.heap "com/example/interfold/interfold/fidl/Token$Kind" "LEFT_BRACE" "Lcom/example/interfold/interfold/fidl/Token$Kind;" (.ref u7)) (hp8 : Sta Z Z.heap "com/example/interfold/interfold/fidl/Token$Kind" "RIGHT_BRACE" "Lcom/example/interfold/interfold/fidl/Token$Kind;" (.ref u8)) (hp9 : Sta Z Z.heap "com/example/interfold/interfold/fidl/Token$Kind" "LEFT_ANGLE" "Lcom/example/interfold/interfold/fidl/Token$Kind;" (.ref u9)) (hp10 : Sta Z Z.heap "com/example/interfold/interfold/fidl/Token$Kind" "RIGHT_ANGLE" "Lcom/example/interfold/interfold/fidl/Token$Kind;" (.ref u10)) (hp11 : Sta Z Z.heap "com/example/interfold/interfold/fidl/Token$Kind" "COMMA" "Lcom/example/interfold/interfold/fidl/Token$Kind;" (.ref u11)) (hp12 : Sta Z Z.heap "com/example/interfold/interfold/fidl/Token$Kind" "SEMICOLON" "Lcom/example/interfold/interfold/fidl/Token$Kind;" (.ref u12)) (hp13 : Sta Z Z.heap "com/example/interfold/interfold/fidl/Token$Kind" "COLON" "Lcom/example/interfold/interfold/fidl/Token$Kind;" (.ref u13)) (hp14 : Sta Z Z.heap "com/example/interfold/interfold/fidl/Token$Kind" "EQUALS" "Lcom/example/interfold/interfold/fidl/Token$Kind;" (.ref u14)) (hp15 : Sta Z Z.heap "com/example/interfold/interfold/fidl/Token$Kind" "DOT" "Lcom/example/interfold/interfold/fidl/Token$Kind;" (.ref u15)) (hp16 : Sta Z Z.heap "com/example/interfold/interfold/fidl/Token$Kind" "AT" "Lcom/example/interfold/interfold/fidl/Token$Kind;" (.ref u16)) (hp17 : Sta Z Z.heap "com/example/interfold/interfold/fidl/Token$Kind" "PIPE" "Lcom/example/interfold/interfold/fidl/Token$Kind;" (.ref u17)) (hp18 : Sta Z Z.heap "com/example/interfold/interfold/fidl/Token$Kind" "ARROW" "Lcom/example/interfold/interfold/fidl/Token$Kind;" (.ref u18)) (hp19 : Sta Z Z.heap "com/example/interfold/interfold/fidl/Token$Kind" "END" "Lcom/example/interfold/interfold/fidl/Token$Kind;" (.ref u19)) :
    MetFree l (⟨"com/example/interfold/interfold/fidl/TokenSetPinLaw", "kindOf", "(I)Lcom/example/interfold/interfold/fidl/Token$Kind;"⟩ : MethodName) (head1 (Jvm.Cond.code (⟨"com/example/interfold/interfold/fidl/TokenSetPinLaw", "kindOf", "(I)Lcom/example/interfold/interfold/fidl/Token$Kind;"⟩ : MethodName) method_2_code 1 (some (.object "com/example/interfold/interfold/fidl/Token$Kind")) :: ws) ({ frames := 0, cells := 0, slots := 0, locals := 0 } : Room)) (fun aa_ U_ => aa_ = #[(.int i)] ∧ Z.Warmed39 U_.vm ∧ U_.heap = h0) (fun _ _ _ _ _ => True) (fun _ U_ o_ V_ => ∃ v_ L_, o_ = .returned v_ ∧ Q_own_pick Z i u0 u1 u2 u3 u4 u5 u6 u7 u8 u9 u10 u11 u12 u13 u14 u15 u16 u17 u18 u19 h0 n0 v_ V_.heap L_ ∧ FrameEnd U_ o_ V_ L_ ({ frames := 0, cells := 0, slots := 0, locals := 0 } : Room).cells ({ frames := 0, cells := 0, slots := 0, locals := 0 } : Room).slots) := by
  refine MetFree.of_bodySF (plainFor_of_name own_pn_own_pick) hisR ?_
  intro p e s m args below meth c s₁ Bd hml0 hP hK
  obtain ⟨rfl, hZ, hh⟩ := hP
  have hx := Bd.exec
  have hby := Bd.bytes
  have hml : c.maxLocals = 1 := hml0
  have hown : s.vm.findClass "com/example/interfold/interfold/fidl/TokenSetPinLaw" = some m.cls := findClass_of_methodNamed Bd.named
  have hnm := (name_of_methodNamed Bd.named Bd.method).1
  have X0 : Stand p l e ({ frames := 0, cells := 0, slots := 0, locals := 0 } : Room) s m #[(.int i)] below meth c s₁ [] 0 0 := Stand.of_body Bd
  have e0 : s₁.heap = h0 := by rw [← hh, Bd.state]; rfl
  have N0 := Fr.nil n0
  have K0 : Keep h0 h0 [] := Keep.refl _ _
  have r0 : GoTo p.tables e below s₁ (own_F_own_pick m i) s₁ (mkF m 0 #[.val (.int i)] []) := fun tt_ kk_ => castTop (own_ef_own_pick m i) kk_
  have r1 : GoTo p.tables e below s₁ (own_F_own_pick m i) s₁ (mkF m 1 #[.val (.int i)] [(.int i)]) := fun tt_ kk_ => r0 tt_ (by
      show Steps p.tables e below (s₁.setTop (mkF m 0 #[.val (.int i)] [])) _
      refine XS.iloadN X0.here hx rfl (hb hby own_d_method_2_code_0) rfl ?_
      show Steps p.tables e below (s₁.setTop (mkF m 1 #[.val (.int i)] [(.int i)])) _
      exact kk_)
  by_cases hc2 : i = (0 : Int32)
  · obtain ⟨T3, X3, e3, st3⟩ := getS2 X0 hx hZ hown (host := "") (Or.inl (hw _ (List.mem_of_getElem? (i := 4) rfl))) Via.refl e0 (hp0.ext (O0.keep K0 all0).2) (g := (mkF m 4 #[.val (.int i)] [])) rfl (hb hby own_d_method_2_code_4)
    obtain ⟨fs, hr, hrun, hended, hW, hsame⟩ := X3.leave (v := some (.ref u0)) (fun h => by rw [Bd.returns] at h; cases h)
    refine ⟨_, _, r1 _ ?_, hrun, hended, _, _, rfl, ?_, ⟨_, rfl⟩, hW, hsame.mono (by decide) (by decide)⟩
    · show Steps p.tables e below (s₁.setTop (mkF m 1 #[.val (.int i)] [(.int i)])) _
      refine XS.ifNo X0.here hx rfl (hb hby own_d_method_2_code_1) rfl ((if0 _ _).trans (teq hc2).2) ?_
      show Steps p.tables e below (s₁.setTop (mkF m 4 #[.val (.int i)] [])) _
      refine st3 _ ?_
      show Steps p.tables e below (T3.setTop (mkF m 7 #[.val (.int i)] [(.ref u0)])) _
      exact retOut X3 hx (t := (.object "com/example/interfold/interfold/fidl/Token$Kind")) Bd.returns rfl (Or.inr (Or.inr (Or.inr (Or.inr ⟨rfl, rfl, rfl⟩)))) (hb hby own_d_method_2_code_7) hr
    · show Q_own_pick Z i u0 u1 u2 u3 u4 u5 u6 u7 u8 u9 u10 u11 u12 u13 u14 u15 u16 u17 u18 u19 h0 n0 _ T3.heap _
      rw [e3]
      exact ⟨u0, rfl, N0, rfl⟩
  · have r4 : GoTo p.tables e below s₁ (own_F_own_pick m i) s₁ (mkF m 10 #[.val (.int i)] [(.int (1 : Int32)), (.int i)]) := fun tt_ kk_ => r1 tt_ (by
        show Steps p.tables e below (s₁.setTop (mkF m 1 #[.val (.int i)] [(.int i)])) _
        refine XS.ifYes X0.here hx rfl (pc0 := 1) (pc' := 8) rfl (hb hby own_d_method_2_code_1) rfl ((if0 _ _).trans (feq hc2).2) (by decide) (by decide) ?_
        show Steps p.tables e below (s₁.setTop (mkF m 8 #[.val (.int i)] [])) _
        refine XS.iloadN X0.here hx rfl (hb hby own_d_method_2_code_8) rfl ?_
        show Steps p.tables e below (s₁.setTop (mkF m 9 #[.val (.int i)] [(.int i)])) _
        refine XS.iconst X0.here hx rfl (hb hby own_d_method_2_code_9) ?_
        show Steps p.tables e below (s₁.setTop (mkF m 10 #[.val (.int i)] [(.int (1 : Int32)), (.int i)])) _
        exact kk_)
    by_cases hc5 : i = (1 : Int32)
    · obtain ⟨T6, X6, e6, st6⟩ := getS2 X0 hx hZ hown (host := "") (Or.inl (hw _ (List.mem_of_getElem? (i := 103) rfl))) Via.refl e0 (hp1.ext (O0.keep K0 all0).2) (g := (mkF m 13 #[.val (.int i)] [])) rfl (hb hby own_d_method_2_code_13)
      obtain ⟨fs, hr, hrun, hended, hW, hsame⟩ := X6.leave (v := some (.ref u1)) (fun h => by rw [Bd.returns] at h; cases h)
      refine ⟨_, _, r4 _ ?_, hrun, hended, _, _, rfl, ?_, ⟨_, rfl⟩, hW, hsame.mono (by decide) (by decide)⟩
      · show Steps p.tables e below (s₁.setTop (mkF m 10 #[.val (.int i)] [(.int (1 : Int32)), (.int i)])) _
        refine XS.icmpNo X0.here hx rfl (hb hby own_d_method_2_code_10) rfl (teq hc5).2 ?_
        show Steps p.tables e below (s₁.setTop (mkF m 13 #[.val (.int i)] [])) _
        refine st6 _ ?_
        show Steps p.tables e below (T6.setTop (mkF m 16 #[.val (.int i)] [(.ref u1)])) _
        exact retOut X6 hx (t := (.object "com/example/interfold/interfold/fidl/Token$Kind")) Bd.returns rfl (Or.inr (Or.inr (Or.inr (Or.inr ⟨rfl, rfl, rfl⟩)))) (hb hby own_d_method_2_code_16) hr
      · show Q_own_pick Z i u0 u1 u2 u3 u4 u5 u6 u7 u8 u9 u10 u11 u12 u13 u14 u15 u16 u17 u18 u19 h0 n0 _ T6.heap _
        rw [e6]
        exact ⟨u1, rfl, N0, rfl⟩
    · have r7 : GoTo p.tables e below s₁ (own_F_own_pick m i) s₁ (mkF m 19 #[.val (.int i)] [(.int (2 : Int32)), (.int i)]) := fun tt_ kk_ => r4 tt_ (by
          show Steps p.tables e below (s₁.setTop (mkF m 10 #[.val (.int i)] [(.int (1 : Int32)), (.int i)])) _
          refine XS.icmpYes X0.here hx rfl (pc0 := 10) (pc' := 17) rfl (hb hby own_d_method_2_code_10) rfl (feq hc5).2 (by decide) (by decide) ?_
          show Steps p.tables e below (s₁.setTop (mkF m 17 #[.val (.int i)] [])) _
          refine XS.iloadN X0.here hx rfl (hb hby own_d_method_2_code_17) rfl ?_
          show Steps p.tables e below (s₁.setTop (mkF m 18 #[.val (.int i)] [(.int i)])) _
          refine XS.iconst X0.here hx rfl (hb hby own_d_method_2_code_18) ?_
          show Steps p.tables e below (s₁.setTop (mkF m 19 #[.val (.int i)] [(.int (2 : Int32)), (.int i)])) _
          exact kk_)
      by_cases hc8 : i = (2 : Int32)
      · obtain ⟨T9, X9, e9, st9⟩ := getS2 X0 hx hZ hown (host := "") (Or.inl (hw _ (List.mem_of_getElem? (i := 101) rfl))) Via.refl e0 (hp2.ext (O0.keep K0 all0).2) (g := (mkF m 22 #[.val (.int i)] [])) rfl (hb hby own_d_method_2_code_22)
        obtain ⟨fs, hr, hrun, hended, hW, hsame⟩ := X9.leave (v := some (.ref u2)) (fun h => by rw [Bd.returns] at h; cases h)
        refine ⟨_, _, r7 _ ?_, hrun, hended, _, _, rfl, ?_, ⟨_, rfl⟩, hW, hsame.mono (by decide) (by decide)⟩
        · show Steps p.tables e below (s₁.setTop (mkF m 19 #[.val (.int i)] [(.int (2 : Int32)), (.int i)])) _
          refine XS.icmpNo X0.here hx rfl (hb hby own_d_method_2_code_19) rfl (teq hc8).2 ?_
          show Steps p.tables e below (s₁.setTop (mkF m 22 #[.val (.int i)] [])) _
          refine st9 _ ?_
          show Steps p.tables e below (T9.setTop (mkF m 25 #[.val (.int i)] [(.ref u2)])) _
          exact retOut X9 hx (t := (.object "com/example/interfold/interfold/fidl/Token$Kind")) Bd.returns rfl (Or.inr (Or.inr (Or.inr (Or.inr ⟨rfl, rfl, rfl⟩)))) (hb hby own_d_method_2_code_25) hr
        · show Q_own_pick Z i u0 u1 u2 u3 u4 u5 u6 u7 u8 u9 u10 u11 u12 u13 u14 u15 u16 u17 u18 u19 h0 n0 _ T9.heap _
          rw [e9]
          exact ⟨u2, rfl, N0, rfl⟩
      · have r10 : GoTo p.tables e below s₁ (own_F_own_pick m i) s₁ (mkF m 28 #[.val (.int i)] [(.int (3 : Int32)), (.int i)]) := fun tt_ kk_ => r7 tt_ (by
            show Steps p.tables e below (s₁.setTop (mkF m 19 #[.val (.int i)] [(.int (2 : Int32)), (.int i)])) _
            refine XS.icmpYes X0.here hx rfl (pc0 := 19) (pc' := 26) rfl (hb hby own_d_method_2_code_19) rfl (feq hc8).2 (by decide) (by decide) ?_
            show Steps p.tables e below (s₁.setTop (mkF m 26 #[.val (.int i)] [])) _
            refine XS.iloadN X0.here hx rfl (hb hby own_d_method_2_code_26) rfl ?_
            show Steps p.tables e below (s₁.setTop (mkF m 27 #[.val (.int i)] [(.int i)])) _
            refine XS.iconst X0.here hx rfl (hb hby own_d_method_2_code_27) ?_
            show Steps p.tables e below (s₁.setTop (mkF m 28 #[.val (.int i)] [(.int (3 : Int32)), (.int i)])) _
            exact kk_)
        by_cases hc11 : i = (3 : Int32)
        · obtain ⟨T12, X12, e12, st12⟩ := getS2 X0 hx hZ hown (host := "") (Or.inl (hw _ (List.mem_of_getElem? (i := 99) rfl))) Via.refl e0 (hp3.ext (O0.keep K0 all0).2) (g := (mkF m 31 #[.val (.int i)] [])) rfl (hb hby own_d_method_2_code_31)
          obtain ⟨fs, hr, hrun, hended, hW, hsame⟩ := X12.leave (v := some (.ref u3)) (fun h => by rw [Bd.returns] at h; cases h)
          refine ⟨_, _, r10 _ ?_, hrun, hended, _, _, rfl, ?_, ⟨_, rfl⟩, hW, hsame.mono (by decide) (by decide)⟩
          · show Steps p.tables e below (s₁.setTop (mkF m 28 #[.val (.int i)] [(.int (3 : Int32)), (.int i)])) _
            refine XS.icmpNo X0.here hx rfl (hb hby own_d_method_2_code_28) rfl (teq hc11).2 ?_
            show Steps p.tables e below (s₁.setTop (mkF m 31 #[.val (.int i)] [])) _
            refine st12 _ ?_
            show Steps p.tables e below (T12.setTop (mkF m 34 #[.val (.int i)] [(.ref u3)])) _
            exact retOut X12 hx (t := (.object "com/example/interfold/interfold/fidl/Token$Kind")) Bd.returns rfl (Or.inr (Or.inr (Or.inr (Or.inr ⟨rfl, rfl, rfl⟩)))) (hb hby own_d_method_2_code_34) hr
          · show Q_own_pick Z i u0 u1 u2 u3 u4 u5 u6 u7 u8 u9 u10 u11 u12 u13 u14 u15 u16 u17 u18 u19 h0 n0 _ T12.heap _
            rw [e12]
            exact ⟨u3, rfl, N0, rfl⟩
        · have r13 : GoTo p.tables e below s₁ (own_F_own_pick m i) s₁ (mkF m 37 #[.val (.int i)] [(.int (4 : Int32)), (.int i)]) := fun tt_ kk_ => r10 tt_ (by
              show Steps p.tables e below (s₁.setTop (mkF m 28 #[.val (.int i)] [(.int (3 : Int32)), (.int i)])) _
              refine XS.icmpYes X0.here hx rfl (pc0 := 28) (pc' := 35) rfl (hb hby own_d_method_2_code_28) rfl (feq hc11).2 (by decide) (by decide) ?_
              show Steps p.tables e below (s₁.setTop (mkF m 35 #[.val (.int i)] [])) _
              refine XS.iloadN X0.here hx rfl (hb hby own_d_method_2_code_35) rfl ?_
              show Steps p.tables e below (s₁.setTop (mkF m 36 #[.val (.int i)] [(.int i)])) _
              refine XS.iconst X0.here hx rfl (hb hby own_d_method_2_code_36) ?_
              show Steps p.tables e below (s₁.setTop (mkF m 37 #[.val (.int i)] [(.int (4 : Int32)), (.int i)])) _
              exact kk_)
          by_cases hc14 : i = (4 : Int32)
          · obtain ⟨T15, X15, e15, st15⟩ := getS2 X0 hx hZ hown (host := "") (Or.inl (hw _ (List.mem_of_getElem? (i := 49) rfl))) Via.refl e0 (hp4.ext (O0.keep K0 all0).2) (g := (mkF m 40 #[.val (.int i)] [])) rfl (hb hby own_d_method_2_code_40)
            obtain ⟨fs, hr, hrun, hended, hW, hsame⟩ := X15.leave (v := some (.ref u4)) (fun h => by rw [Bd.returns] at h; cases h)
            refine ⟨_, _, r13 _ ?_, hrun, hended, _, _, rfl, ?_, ⟨_, rfl⟩, hW, hsame.mono (by decide) (by decide)⟩
            · show Steps p.tables e below (s₁.setTop (mkF m 37 #[.val (.int i)] [(.int (4 : Int32)), (.int i)])) _
              refine XS.icmpNo X0.here hx rfl (hb hby own_d_method_2_code_37) rfl (teq hc14).2 ?_
              show Steps p.tables e below (s₁.setTop (mkF m 40 #[.val (.int i)] [])) _
              refine st15 _ ?_
              show Steps p.tables e below (T15.setTop (mkF m 43 #[.val (.int i)] [(.ref u4)])) _
              exact retOut X15 hx (t := (.object "com/example/interfold/interfold/fidl/Token$Kind")) Bd.returns rfl (Or.inr (Or.inr (Or.inr (Or.inr ⟨rfl, rfl, rfl⟩)))) (hb hby own_d_method_2_code_43) hr
            · show Q_own_pick Z i u0 u1 u2 u3 u4 u5 u6 u7 u8 u9 u10 u11 u12 u13 u14 u15 u16 u17 u18 u19 h0 n0 _ T15.heap _
              rw [e15]
              exact ⟨u4, rfl, N0, rfl⟩
          · have r16 : GoTo p.tables e below s₁ (own_F_own_pick m i) s₁ (mkF m 46 #[.val (.int i)] [(.int (5 : Int32)), (.int i)]) := fun tt_ kk_ => r13 tt_ (by
                show Steps p.tables e below (s₁.setTop (mkF m 37 #[.val (.int i)] [(.int (4 : Int32)), (.int i)])) _
                refine XS.icmpYes X0.here hx rfl (pc0 := 37) (pc' := 44) rfl (hb hby own_d_method_2_code_37) rfl (feq hc14).2 (by decide) (by decide) ?_
                show Steps p.tables e below (s₁.setTop (mkF m 44 #[.val (.int i)] [])) _
                refine XS.iloadN X0.here hx rfl (hb hby own_d_method_2_code_44) rfl ?_
                show Steps p.tables e below (s₁.setTop (mkF m 45 #[.val (.int i)] [(.int i)])) _
                refine XS.iconst X0.here hx rfl (hb hby own_d_method_2_code_45) ?_
                show Steps p.tables e below (s₁.setTop (mkF m 46 #[.val (.int i)] [(.int (5 : Int32)), (.int i)])) _
                exact kk_)
            by_cases hc17 : i = (5 : Int32)
            · obtain ⟨T18, X18, e18, st18⟩ := getS2 X0 hx hZ hown (host := "") (Or.inl (hw _ (List.mem_of_getElem? (i := 109) rfl))) Via.refl e0 (hp5.ext (O0.keep K0 all0).2) (g := (mkF m 49 #[.val (.int i)] [])) rfl (hb hby own_d_method_2_code_49)
              obtain ⟨fs, hr, hrun, hended, hW, hsame⟩ := X18.leave (v := some (.ref u5)) (fun h => by rw [Bd.returns] at h; cases h)
              refine ⟨_, _, r16 _ ?_, hrun, hended, _, _, rfl, ?_, ⟨_, rfl⟩, hW, hsame.mono (by decide) (by decide)⟩
              · show Steps p.tables e below (s₁.setTop (mkF m 46 #[.val (.int i)] [(.int (5 : Int32)), (.int i)])) _
                refine XS.icmpNo X0.here hx rfl (hb hby own_d_method_2_code_46) rfl (teq hc17).2 ?_
                show Steps p.tables e below (s₁.setTop (mkF m 49 #[.val (.int i)] [])) _
                refine st18 _ ?_
                show Steps p.tables e below (T18.setTop (mkF m 52 #[.val (.int i)] [(.ref u5)])) _
                exact retOut X18 hx (t := (.object "com/example/interfold/interfold/fidl/Token$Kind")) Bd.returns rfl (Or.inr (Or.inr (Or.inr (Or.inr ⟨rfl, rfl, rfl⟩)))) (hb hby own_d_method_2_code_52) hr
              · show Q_own_pick Z i u0 u1 u2 u3 u4 u5 u6 u7 u8 u9 u10 u11 u12 u13 u14 u15 u16 u17 u18 u19 h0 n0 _ T18.heap _
                rw [e18]
                exact ⟨u5, rfl, N0, rfl⟩
            · have r19 : GoTo p.tables e below s₁ (own_F_own_pick m i) s₁ (mkF m 56 #[.val (.int i)] [(.int (6 : Int32)), (.int i)]) := fun tt_ kk_ => r16 tt_ (by
                  show Steps p.tables e below (s₁.setTop (mkF m 46 #[.val (.int i)] [(.int (5 : Int32)), (.int i)])) _
                  refine XS.icmpYes X0.here hx rfl (pc0 := 46) (pc' := 53) rfl (hb hby own_d_method_2_code_46) rfl (feq hc17).2 (by decide) (by decide) ?_
                  show Steps p.tables e below (s₁.setTop (mkF m 53 #[.val (.int i)] [])) _
                  refine XS.iloadN X0.here hx rfl (hb hby own_d_method_2_code_53) rfl ?_
                  show Steps p.tables e below (s₁.setTop (mkF m 54 #[.val (.int i)] [(.int i)])) _
                  refine XS.bipush X0.here hx rfl (hb hby own_d_method_2_code_54) ?_
                  show Steps p.tables e below (s₁.setTop (mkF m 56 #[.val (.int i)] [(.int (6 : Int32)), (.int i)])) _
                  exact kk_)
              by_cases hc20 : i = (6 : Int32)
              · obtain ⟨T21, X21, e21, st21⟩ := getS2 X0 hx hZ hown (host := "") (Or.inl (hw _ (List.mem_of_getElem? (i := 95) rfl))) Via.refl e0 (hp6.ext (O0.keep K0 all0).2) (g := (mkF m 59 #[.val (.int i)] [])) rfl (hb hby own_d_method_2_code_59)
                obtain ⟨fs, hr, hrun, hended, hW, hsame⟩ := X21.leave (v := some (.ref u6)) (fun h => by rw [Bd.returns] at h; cases h)
                refine ⟨_, _, r19 _ ?_, hrun, hended, _, _, rfl, ?_, ⟨_, rfl⟩, hW, hsame.mono (by decide) (by decide)⟩
                · show Steps p.tables e below (s₁.setTop (mkF m 56 #[.val (.int i)] [(.int (6 : Int32)), (.int i)])) _
                  refine XS.icmpNo X0.here hx rfl (hb hby own_d_method_2_code_56) rfl (teq hc20).2 ?_
                  show Steps p.tables e below (s₁.setTop (mkF m 59 #[.val (.int i)] [])) _
                  refine st21 _ ?_
                  show Steps p.tables e below (T21.setTop (mkF m 62 #[.val (.int i)] [(.ref u6)])) _
                  exact retOut X21 hx (t := (.object "com/example/interfold/interfold/fidl/Token$Kind")) Bd.returns rfl (Or.inr (Or.inr (Or.inr (Or.inr ⟨rfl, rfl, rfl⟩)))) (hb hby own_d_method_2_code_62) hr
                · show Q_own_pick Z i u0 u1 u2 u3 u4 u5 u6 u7 u8 u9 u10 u11 u12 u13 u14 u15 u16 u17 u18 u19 h0 n0 _ T21.heap _
                  rw [e21]
                  exact ⟨u6, rfl, N0, rfl⟩
              · have r22 : GoTo p.tables e below s₁ (own_F_own_pick m i) s₁ (mkF m 66 #[.val (.int i)] [(.int (7 : Int32)), (.int i)]) := fun tt_ kk_ => r19 tt_ (by
                    show Steps p.tables e below (s₁.setTop (mkF m 56 #[.val (.int i)] [(.int (6 : Int32)), (.int i)])) _
                    refine XS.icmpYes X0.here hx rfl (pc0 := 56) (pc' := 63) rfl (hb hby own_d_method_2_code_56) rfl (feq hc20).2 (by decide) (by decide) ?_
                    show Steps p.tables e below (s₁.setTop (mkF m 63 #[.val (.int i)] [])) _
                    refine XS.iloadN X0.here hx rfl (hb hby own_d_method_2_code_63) rfl ?_
                    show Steps p.tables e below (s₁.setTop (mkF m 64 #[.val (.int i)] [(.int i)])) _
                    refine XS.bipush X0.here hx rfl (hb hby own_d_method_2_code_64) ?_
                    show Steps p.tables e below (s₁.setTop (mkF m 66 #[.val (.int i)] [(.int (7 : Int32)), (.int i)])) _
                    exact kk_)
                by_cases hc23 : i = (7 : Int32)
                · obtain ⟨T24, X24, e24, st24⟩ := getS2 X0 hx hZ hown (host := "") (Or.inl (hw _ (List.mem_of_getElem? (i := 107) rfl))) Via.refl e0 (hp7.ext (O0.keep K0 all0).2) (g := (mkF m 69 #[.val (.int i)] [])) rfl (hb hby own_d_method_2_code_69)
                  obtain ⟨fs, hr, hrun, hended, hW, hsame⟩ := X24.leave (v := some (.ref u7)) (fun h => by rw [Bd.returns] at h; cases h)
                  refine ⟨_, _, r22 _ ?_, hrun, hended, _, _, rfl, ?_, ⟨_, rfl⟩, hW, hsame.mono (by decide) (by decide)⟩
                  · show Steps p.tables e below (s₁.setTop (mkF m 66 #[.val (.int i)] [(.int (7 : Int32)), (.int i)])) _
                    refine XS.icmpNo X0.here hx rfl (hb hby own_d_method_2_code_66) rfl (teq hc23).2 ?_
                    show Steps p.tables e below (s₁.setTop (mkF m 69 #[.val (.int i)] [])) _
                    refine st24 _ ?_
                    show Steps p.tables e below (T24.setTop (mkF m 72 #[.val (.int i)] [(.ref u7)])) _
                    exact retOut X24 hx (t := (.object "com/example/interfold/interfold/fidl/Token$Kind")) Bd.returns rfl (Or.inr (Or.inr (Or.inr (Or.inr ⟨rfl, rfl, rfl⟩)))) (hb hby own_d_method_2_code_72) hr
                  · show Q_own_pick Z i u0 u1 u2 u3 u4 u5 u6 u7 u8 u9 u10 u11 u12 u13 u14 u15 u16 u17 u18 u19 h0 n0 _ T24.heap _
                    rw [e24]
                    exact ⟨u7, rfl, N0, rfl⟩
                · have r25 : GoTo p.tables e below s₁ (own_F_own_pick m i) s₁ (mkF m 76 #[.val (.int i)] [(.int (8 : Int32)), (.int i)]) := fun tt_ kk_ => r22 tt_ (by
                      show Steps p.tables e below (s₁.setTop (mkF m 66 #[.val (.int i)] [(.int (7 : Int32)), (.int i)])) _
                      refine XS.icmpYes X0.here hx rfl (pc0 := 66) (pc' := 73) rfl (hb hby own_d_method_2_code_66) rfl (feq hc23).2 (by decide) (by decide) ?_
                      show Steps p.tables e below (s₁.setTop (mkF m 73 #[.val (.int i)] [])) _
                      refine XS.iloadN X0.here hx rfl (hb hby own_d_method_2_code_73) rfl ?_
                      show Steps p.tables e below (s₁.setTop (mkF m 74 #[.val (.int i)] [(.int i)])) _
                      refine XS.bipush X0.here hx rfl (hb hby own_d_method_2_code_74) ?_
                      show Steps p.tables e below (s₁.setTop (mkF m 76 #[.val (.int i)] [(.int (8 : Int32)), (.int i)])) _
                      exact kk_)
                  by_cases hc26 : i = (8 : Int32)
                  · obtain ⟨T27, X27, e27, st27⟩ := getS2 X0 hx hZ hown (host := "") (Or.inl (hw _ (List.mem_of_getElem? (i := 53) rfl))) Via.refl e0 (hp8.ext (O0.keep K0 all0).2) (g := (mkF m 79 #[.val (.int i)] [])) rfl (hb hby own_d_method_2_code_79)
                    obtain ⟨fs, hr, hrun, hended, hW, hsame⟩ := X27.leave (v := some (.ref u8)) (fun h => by rw [Bd.returns] at h; cases h)
                    refine ⟨_, _, r25 _ ?_, hrun, hended, _, _, rfl, ?_, ⟨_, rfl⟩, hW, hsame.mono (by decide) (by decide)⟩
                    · show Steps p.tables e below (s₁.setTop (mkF m 76 #[.val (.int i)] [(.int (8 : Int32)), (.int i)])) _
                      refine XS.icmpNo X0.here hx rfl (hb hby own_d_method_2_code_76) rfl (teq hc26).2 ?_
                      show Steps p.tables e below (s₁.setTop (mkF m 79 #[.val (.int i)] [])) _
                      refine st27 _ ?_
                      show Steps p.tables e below (T27.setTop (mkF m 82 #[.val (.int i)] [(.ref u8)])) _
                      exact retOut X27 hx (t := (.object "com/example/interfold/interfold/fidl/Token$Kind")) Bd.returns rfl (Or.inr (Or.inr (Or.inr (Or.inr ⟨rfl, rfl, rfl⟩)))) (hb hby own_d_method_2_code_82) hr
                    · show Q_own_pick Z i u0 u1 u2 u3 u4 u5 u6 u7 u8 u9 u10 u11 u12 u13 u14 u15 u16 u17 u18 u19 h0 n0 _ T27.heap _
                      rw [e27]
                      exact ⟨u8, rfl, N0, rfl⟩
                  · have r28 : GoTo p.tables e below s₁ (own_F_own_pick m i) s₁ (mkF m 86 #[.val (.int i)] [(.int (9 : Int32)), (.int i)]) := fun tt_ kk_ => r25 tt_ (by
                        show Steps p.tables e below (s₁.setTop (mkF m 76 #[.val (.int i)] [(.int (8 : Int32)), (.int i)])) _
                        refine XS.icmpYes X0.here hx rfl (pc0 := 76) (pc' := 83) rfl (hb hby own_d_method_2_code_76) rfl (feq hc26).2 (by decide) (by decide) ?_
                        show Steps p.tables e below (s₁.setTop (mkF m 83 #[.val (.int i)] [])) _
                        refine XS.iloadN X0.here hx rfl (hb hby own_d_method_2_code_83) rfl ?_
                        show Steps p.tables e below (s₁.setTop (mkF m 84 #[.val (.int i)] [(.int i)])) _
                        refine XS.bipush X0.here hx rfl (hb hby own_d_method_2_code_84) ?_
                        show Steps p.tables e below (s₁.setTop (mkF m 86 #[.val (.int i)] [(.int (9 : Int32)), (.int i)])) _
                        exact kk_)
                    by_cases hc29 : i = (9 : Int32)
                    · obtain ⟨T30, X30, e30, st30⟩ := getS2 X0 hx hZ hown (host := "") (Or.inl (hw _ (List.mem_of_getElem? (i := 93) rfl))) Via.refl e0 (hp9.ext (O0.keep K0 all0).2) (g := (mkF m 89 #[.val (.int i)] [])) rfl (hb hby own_d_method_2_code_89)
                      obtain ⟨fs, hr, hrun, hended, hW, hsame⟩ := X30.leave (v := some (.ref u9)) (fun h => by rw [Bd.returns] at h; cases h)
                      refine ⟨_, _, r28 _ ?_, hrun, hended, _, _, rfl, ?_, ⟨_, rfl⟩, hW, hsame.mono (by decide) (by decide)⟩
                      · show Steps p.tables e below (s₁.setTop (mkF m 86 #[.val (.int i)] [(.int (9 : Int32)), (.int i)])) _
                        refine XS.icmpNo X0.here hx rfl (hb hby own_d_method_2_code_86) rfl (teq hc29).2 ?_
                        show Steps p.tables e below (s₁.setTop (mkF m 89 #[.val (.int i)] [])) _
                        refine st30 _ ?_
                        show Steps p.tables e below (T30.setTop (mkF m 92 #[.val (.int i)] [(.ref u9)])) _
                        exact retOut X30 hx (t := (.object "com/example/interfold/interfold/fidl/Token$Kind")) Bd.returns rfl (Or.inr (Or.inr (Or.inr (Or.inr ⟨rfl, rfl, rfl⟩)))) (hb hby own_d_method_2_code_92) hr
                      · show Q_own_pick Z i u0 u1 u2 u3 u4 u5 u6 u7 u8 u9 u10 u11 u12 u13 u14 u15 u16 u17 u18 u19 h0 n0 _ T30.heap _
                        rw [e30]
                        exact ⟨u9, rfl, N0, rfl⟩
                    · have r31 : GoTo p.tables e below s₁ (own_F_own_pick m i) s₁ (mkF m 96 #[.val (.int i)] [(.int (10 : Int32)), (.int i)]) := fun tt_ kk_ => r28 tt_ (by
                          show Steps p.tables e below (s₁.setTop (mkF m 86 #[.val (.int i)] [(.int (9 : Int32)), (.int i)])) _
                          refine XS.icmpYes X0.here hx rfl (pc0 := 86) (pc' := 93) rfl (hb hby own_d_method_2_code_86) rfl (feq hc29).2 (by decide) (by decide) ?_
                          show Steps p.tables e below (s₁.setTop (mkF m 93 #[.val (.int i)] [])) _
                          refine XS.iloadN X0.here hx rfl (hb hby own_d_method_2_code_93) rfl ?_
                          show Steps p.tables e below (s₁.setTop (mkF m 94 #[.val (.int i)] [(.int i)])) _
                          refine XS.bipush X0.here hx rfl (hb hby own_d_method_2_code_94) ?_
                          show Steps p.tables e below (s₁.setTop (mkF m 96 #[.val (.int i)] [(.int (10 : Int32)), (.int i)])) _
                          exact kk_)
                      by_cases hc32 : i = (10 : Int32)
                      · obtain ⟨T33, X33, e33, st33⟩ := getS2 X0 hx hZ hown (host := "") (Or.inl (hw _ (List.mem_of_getElem? (i := 91) rfl))) Via.refl e0 (hp10.ext (O0.keep K0 all0).2) (g := (mkF m 99 #[.val (.int i)] [])) rfl (hb hby own_d_method_2_code_99)
                        obtain ⟨fs, hr, hrun, hended, hW, hsame⟩ := X33.leave (v := some (.ref u10)) (fun h => by rw [Bd.returns] at h; cases h)
                        refine ⟨_, _, r31 _ ?_, hrun, hended, _, _, rfl, ?_, ⟨_, rfl⟩, hW, hsame.mono (by decide) (by decide)⟩
                        · show Steps p.tables e below (s₁.setTop (mkF m 96 #[.val (.int i)] [(.int (10 : Int32)), (.int i)])) _
                          refine XS.icmpNo X0.here hx rfl (hb hby own_d_method_2_code_96) rfl (teq hc32).2 ?_
                          show Steps p.tables e below (s₁.setTop (mkF m 99 #[.val (.int i)] [])) _
                          refine st33 _ ?_
                          show Steps p.tables e below (T33.setTop (mkF m 102 #[.val (.int i)] [(.ref u10)])) _
                          exact retOut X33 hx (t := (.object "com/example/interfold/interfold/fidl/Token$Kind")) Bd.returns rfl (Or.inr (Or.inr (Or.inr (Or.inr ⟨rfl, rfl, rfl⟩)))) (hb hby own_d_method_2_code_102) hr
                        · show Q_own_pick Z i u0 u1 u2 u3 u4 u5 u6 u7 u8 u9 u10 u11 u12 u13 u14 u15 u16 u17 u18 u19 h0 n0 _ T33.heap _
                          rw [e33]
                          exact ⟨u10, rfl, N0, rfl⟩
                      · have r34 : GoTo p.tables e below s₁ (own_F_own_pick m i) s₁ (mkF m 106 #[.val (.int i)] [(.int (11 : Int32)), (.int i)]) := fun tt_ kk_ => r31 tt_ (by
                            show Steps p.tables e below (s₁.setTop (mkF m 96 #[.val (.int i)] [(.int (10 : Int32)), (.int i)])) _
                            refine XS.icmpYes X0.here hx rfl (pc0 := 96) (pc' := 103) rfl (hb hby own_d_method_2_code_96) rfl (feq hc32).2 (by decide) (by decide) ?_
                            show Steps p.tables e below (s₁.setTop (mkF m 103 #[.val (.int i)] [])) _
                            refine XS.iloadN X0.here hx rfl (hb hby own_d_method_2_code_103) rfl ?_
                            show Steps p.tables e below (s₁.setTop (mkF m 104 #[.val (.int i)] [(.int i)])) _
                            refine XS.bipush X0.here hx rfl (hb hby own_d_method_2_code_104) ?_
                            show Steps p.tables e below (s₁.setTop (mkF m 106 #[.val (.int i)] [(.int (11 : Int32)), (.int i)])) _
                            exact kk_)
                        by_cases hc35 : i = (11 : Int32)
                        · obtain ⟨T36, X36, e36, st36⟩ := getS2 X0 hx hZ hown (host := "") (Or.inl (hw _ (List.mem_of_getElem? (i := 59) rfl))) Via.refl e0 (hp11.ext (O0.keep K0 all0).2) (g := (mkF m 109 #[.val (.int i)] [])) rfl (hb hby own_d_method_2_code_109)
                          obtain ⟨fs, hr, hrun, hended, hW, hsame⟩ := X36.leave (v := some (.ref u11)) (fun h => by rw [Bd.returns] at h; cases h)
                          refine ⟨_, _, r34 _ ?_, hrun, hended, _, _, rfl, ?_, ⟨_, rfl⟩, hW, hsame.mono (by decide) (by decide)⟩
                          · show Steps p.tables e below (s₁.setTop (mkF m 106 #[.val (.int i)] [(.int (11 : Int32)), (.int i)])) _
                            refine XS.icmpNo X0.here hx rfl (hb hby own_d_method_2_code_106) rfl (teq hc35).2 ?_
                            show Steps p.tables e below (s₁.setTop (mkF m 109 #[.val (.int i)] [])) _
                            refine st36 _ ?_
                            show Steps p.tables e below (T36.setTop (mkF m 112 #[.val (.int i)] [(.ref u11)])) _
                            exact retOut X36 hx (t := (.object "com/example/interfold/interfold/fidl/Token$Kind")) Bd.returns rfl (Or.inr (Or.inr (Or.inr (Or.inr ⟨rfl, rfl, rfl⟩)))) (hb hby own_d_method_2_code_112) hr
                          · show Q_own_pick Z i u0 u1 u2 u3 u4 u5 u6 u7 u8 u9 u10 u11 u12 u13 u14 u15 u16 u17 u18 u19 h0 n0 _ T36.heap _
                            rw [e36]
                            exact ⟨u11, rfl, N0, rfl⟩
                        · have r37 : GoTo p.tables e below s₁ (own_F_own_pick m i) s₁ (mkF m 116 #[.val (.int i)] [(.int (12 : Int32)), (.int i)]) := fun tt_ kk_ => r34 tt_ (by
                              show Steps p.tables e below (s₁.setTop (mkF m 106 #[.val (.int i)] [(.int (11 : Int32)), (.int i)])) _
                              refine XS.icmpYes X0.here hx rfl (pc0 := 106) (pc' := 113) rfl (hb hby own_d_method_2_code_106) rfl (feq hc35).2 (by decide) (by decide) ?_
                              show Steps p.tables e below (s₁.setTop (mkF m 113 #[.val (.int i)] [])) _
                              refine XS.iloadN X0.here hx rfl (hb hby own_d_method_2_code_113) rfl ?_
                              show Steps p.tables e below (s₁.setTop (mkF m 114 #[.val (.int i)] [(.int i)])) _
                              refine XS.bipush X0.here hx rfl (hb hby own_d_method_2_code_114) ?_
                              show Steps p.tables e below (s₁.setTop (mkF m 116 #[.val (.int i)] [(.int (12 : Int32)), (.int i)])) _
                              exact kk_)
                          by_cases hc38 : i = (12 : Int32)
                          · obtain ⟨T39, X39, e39, st39⟩ := getS2 X0 hx hZ hown (host := "") (Or.inl (hw _ (List.mem_of_getElem? (i := 89) rfl))) Via.refl e0 (hp12.ext (O0.keep K0 all0).2) (g := (mkF m 119 #[.val (.int i)] [])) rfl (hb hby own_d_method_2_code_119)
                            obtain ⟨fs, hr, hrun, hended, hW, hsame⟩ := X39.leave (v := some (.ref u12)) (fun h => by rw [Bd.returns] at h; cases h)
                            refine ⟨_, _, r37 _ ?_, hrun, hended, _, _, rfl, ?_, ⟨_, rfl⟩, hW, hsame.mono (by decide) (by decide)⟩
                            · show Steps p.tables e below (s₁.setTop (mkF m 116 #[.val (.int i)] [(.int (12 : Int32)), (.int i)])) _
                              refine XS.icmpNo X0.here hx rfl (hb hby own_d_method_2_code_116) rfl (teq hc38).2 ?_
                              show Steps p.tables e below (s₁.setTop (mkF m 119 #[.val (.int i)] [])) _
                              refine st39 _ ?_
                              show Steps p.tables e below (T39.setTop (mkF m 122 #[.val (.int i)] [(.ref u12)])) _
                              exact retOut X39 hx (t := (.object "com/example/interfold/interfold/fidl/Token$Kind")) Bd.returns rfl (Or.inr (Or.inr (Or.inr (Or.inr ⟨rfl, rfl, rfl⟩)))) (hb hby own_d_method_2_code_122) hr
                            · show Q_own_pick Z i u0 u1 u2 u3 u4 u5 u6 u7 u8 u9 u10 u11 u12 u13 u14 u15 u16 u17 u18 u19 h0 n0 _ T39.heap _
                              rw [e39]
                              exact ⟨u12, rfl, N0, rfl⟩
                          · have r40 : GoTo p.tables e below s₁ (own_F_own_pick m i) s₁ (mkF m 126 #[.val (.int i)] [(.int (13 : Int32)), (.int i)]) := fun tt_ kk_ => r37 tt_ (by
                                show Steps p.tables e below (s₁.setTop (mkF m 116 #[.val (.int i)] [(.int (12 : Int32)), (.int i)])) _
                                refine XS.icmpYes X0.here hx rfl (pc0 := 116) (pc' := 123) rfl (hb hby own_d_method_2_code_116) rfl (feq hc38).2 (by decide) (by decide) ?_
                                show Steps p.tables e below (s₁.setTop (mkF m 123 #[.val (.int i)] [])) _
                                refine XS.iloadN X0.here hx rfl (hb hby own_d_method_2_code_123) rfl ?_
                                show Steps p.tables e below (s₁.setTop (mkF m 124 #[.val (.int i)] [(.int i)])) _
                                refine XS.bipush X0.here hx rfl (hb hby own_d_method_2_code_124) ?_
                                show Steps p.tables e below (s₁.setTop (mkF m 126 #[.val (.int i)] [(.int (13 : Int32)), (.int i)])) _
                                exact kk_)
                            by_cases hc41 : i = (13 : Int32)
                            · obtain ⟨T42, X42, e42, st42⟩ := getS2 X0 hx hZ hown (host := "") (Or.inl (hw _ (List.mem_of_getElem? (i := 51) rfl))) Via.refl e0 (hp13.ext (O0.keep K0 all0).2) (g := (mkF m 129 #[.val (.int i)] [])) rfl (hb hby own_d_method_2_code_129)
                              obtain ⟨fs, hr, hrun, hended, hW, hsame⟩ := X42.leave (v := some (.ref u13)) (fun h => by rw [Bd.returns] at h; cases h)
                              refine ⟨_, _, r40 _ ?_, hrun, hended, _, _, rfl, ?_, ⟨_, rfl⟩, hW, hsame.mono (by decide) (by decide)⟩
                              · show Steps p.tables e below (s₁.setTop (mkF m 126 #[.val (.int i)] [(.int (13 : Int32)), (.int i)])) _
                                refine XS.icmpNo X0.here hx rfl (hb hby own_d_method_2_code_126) rfl (teq hc41).2 ?_
                                show Steps p.tables e below (s₁.setTop (mkF m 129 #[.val (.int i)] [])) _
                                refine st42 _ ?_
                                show Steps p.tables e below (T42.setTop (mkF m 132 #[.val (.int i)] [(.ref u13)])) _
                                exact retOut X42 hx (t := (.object "com/example/interfold/interfold/fidl/Token$Kind")) Bd.returns rfl (Or.inr (Or.inr (Or.inr (Or.inr ⟨rfl, rfl, rfl⟩)))) (hb hby own_d_method_2_code_132) hr
                              · show Q_own_pick Z i u0 u1 u2 u3 u4 u5 u6 u7 u8 u9 u10 u11 u12 u13 u14 u15 u16 u17 u18 u19 h0 n0 _ T42.heap _
                                rw [e42]
                                exact ⟨u13, rfl, N0, rfl⟩
                            · have r43 : GoTo p.tables e below s₁ (own_F_own_pick m i) s₁ (mkF m 136 #[.val (.int i)] [(.int (14 : Int32)), (.int i)]) := fun tt_ kk_ => r40 tt_ (by
                                  show Steps p.tables e below (s₁.setTop (mkF m 126 #[.val (.int i)] [(.int (13 : Int32)), (.int i)])) _
                                  refine XS.icmpYes X0.here hx rfl (pc0 := 126) (pc' := 133) rfl (hb hby own_d_method_2_code_126) rfl (feq hc41).2 (by decide) (by decide) ?_
                                  show Steps p.tables e below (s₁.setTop (mkF m 133 #[.val (.int i)] [])) _
                                  refine XS.iloadN X0.here hx rfl (hb hby own_d_method_2_code_133) rfl ?_
                                  show Steps p.tables e below (s₁.setTop (mkF m 134 #[.val (.int i)] [(.int i)])) _
                                  refine XS.bipush X0.here hx rfl (hb hby own_d_method_2_code_134) ?_
                                  show Steps p.tables e below (s₁.setTop (mkF m 136 #[.val (.int i)] [(.int (14 : Int32)), (.int i)])) _
                                  exact kk_)
                              by_cases hc44 : i = (14 : Int32)
                              · obtain ⟨T45, X45, e45, st45⟩ := getS2 X0 hx hZ hown (host := "") (Or.inl (hw _ (List.mem_of_getElem? (i := 57) rfl))) Via.refl e0 (hp14.ext (O0.keep K0 all0).2) (g := (mkF m 139 #[.val (.int i)] [])) rfl (hb hby own_d_method_2_code_139)
                                obtain ⟨fs, hr, hrun, hended, hW, hsame⟩ := X45.leave (v := some (.ref u14)) (fun h => by rw [Bd.returns] at h; cases h)
                                refine ⟨_, _, r43 _ ?_, hrun, hended, _, _, rfl, ?_, ⟨_, rfl⟩, hW, hsame.mono (by decide) (by decide)⟩
                                · show Steps p.tables e below (s₁.setTop (mkF m 136 #[.val (.int i)] [(.int (14 : Int32)), (.int i)])) _
                                  refine XS.icmpNo X0.here hx rfl (hb hby own_d_method_2_code_136) rfl (teq hc44).2 ?_
                                  show Steps p.tables e below (s₁.setTop (mkF m 139 #[.val (.int i)] [])) _
                                  refine st45 _ ?_
                                  show Steps p.tables e below (T45.setTop (mkF m 142 #[.val (.int i)] [(.ref u14)])) _
                                  exact retOut X45 hx (t := (.object "com/example/interfold/interfold/fidl/Token$Kind")) Bd.returns rfl (Or.inr (Or.inr (Or.inr (Or.inr ⟨rfl, rfl, rfl⟩)))) (hb hby own_d_method_2_code_142) hr
                                · show Q_own_pick Z i u0 u1 u2 u3 u4 u5 u6 u7 u8 u9 u10 u11 u12 u13 u14 u15 u16 u17 u18 u19 h0 n0 _ T45.heap _
                                  rw [e45]
                                  exact ⟨u14, rfl, N0, rfl⟩
                              · have r46 : GoTo p.tables e below s₁ (own_F_own_pick m i) s₁ (mkF m 146 #[.val (.int i)] [(.int (15 : Int32)), (.int i)]) := fun tt_ kk_ => r43 tt_ (by
                                    show Steps p.tables e below (s₁.setTop (mkF m 136 #[.val (.int i)] [(.int (14 : Int32)), (.int i)])) _
                                    refine XS.icmpYes X0.here hx rfl (pc0 := 136) (pc' := 143) rfl (hb hby own_d_method_2_code_136) rfl (feq hc44).2 (by decide) (by decide) ?_
                                    show Steps p.tables e below (s₁.setTop (mkF m 143 #[.val (.int i)] [])) _
                                    refine XS.iloadN X0.here hx rfl (hb hby own_d_method_2_code_143) rfl ?_
                                    show Steps p.tables e below (s₁.setTop (mkF m 144 #[.val (.int i)] [(.int i)])) _
                                    refine XS.bipush X0.here hx rfl (hb hby own_d_method_2_code_144) ?_
                                    show Steps p.tables e below (s₁.setTop (mkF m 146 #[.val (.int i)] [(.int (15 : Int32)), (.int i)])) _
                                    exact kk_)
                                by_cases hc47 : i = (15 : Int32)
                                · obtain ⟨T48, X48, e48, st48⟩ := getS2 X0 hx hZ hown (host := "") (Or.inl (hw _ (List.mem_of_getElem? (i := 55) rfl))) Via.refl e0 (hp15.ext (O0.keep K0 all0).2) (g := (mkF m 149 #[.val (.int i)] [])) rfl (hb hby own_d_method_2_code_149)
                                  obtain ⟨fs, hr, hrun, hended, hW, hsame⟩ := X48.leave (v := some (.ref u15)) (fun h => by rw [Bd.returns] at h; cases h)
                                  refine ⟨_, _, r46 _ ?_, hrun, hended, _, _, rfl, ?_, ⟨_, rfl⟩, hW, hsame.mono (by decide) (by decide)⟩
                                  · show Steps p.tables e below (s₁.setTop (mkF m 146 #[.val (.int i)] [(.int (15 : Int32)), (.int i)])) _
                                    refine XS.icmpNo X0.here hx rfl (hb hby own_d_method_2_code_146) rfl (teq hc47).2 ?_
                                    show Steps p.tables e below (s₁.setTop (mkF m 149 #[.val (.int i)] [])) _
                                    refine st48 _ ?_
                                    show Steps p.tables e below (T48.setTop (mkF m 152 #[.val (.int i)] [(.ref u15)])) _
                                    exact retOut X48 hx (t := (.object "com/example/interfold/interfold/fidl/Token$Kind")) Bd.returns rfl (Or.inr (Or.inr (Or.inr (Or.inr ⟨rfl, rfl, rfl⟩)))) (hb hby own_d_method_2_code_152) hr
                                  · show Q_own_pick Z i u0 u1 u2 u3 u4 u5 u6 u7 u8 u9 u10 u11 u12 u13 u14 u15 u16 u17 u18 u19 h0 n0 _ T48.heap _
                                    rw [e48]
                                    exact ⟨u15, rfl, N0, rfl⟩
                                · have r49 : GoTo p.tables e below s₁ (own_F_own_pick m i) s₁ (mkF m 156 #[.val (.int i)] [(.int (16 : Int32)), (.int i)]) := fun tt_ kk_ => r46 tt_ (by
                                      show Steps p.tables e below (s₁.setTop (mkF m 146 #[.val (.int i)] [(.int (15 : Int32)), (.int i)])) _
                                      refine XS.icmpYes X0.here hx rfl (pc0 := 146) (pc' := 153) rfl (hb hby own_d_method_2_code_146) rfl (feq hc47).2 (by decide) (by decide) ?_
                                      show Steps p.tables e below (s₁.setTop (mkF m 153 #[.val (.int i)] [])) _
                                      refine XS.iloadN X0.here hx rfl (hb hby own_d_method_2_code_153) rfl ?_
                                      show Steps p.tables e below (s₁.setTop (mkF m 154 #[.val (.int i)] [(.int i)])) _
                                      refine XS.bipush X0.here hx rfl (hb hby own_d_method_2_code_154) ?_
                                      show Steps p.tables e below (s₁.setTop (mkF m 156 #[.val (.int i)] [(.int (16 : Int32)), (.int i)])) _
                                      exact kk_)
                                  by_cases hc50 : i = (16 : Int32)
                                  · obtain ⟨T51, X51, e51, st51⟩ := getS2 X0 hx hZ hown (host := "") (Or.inl (hw _ (List.mem_of_getElem? (i := 105) rfl))) Via.refl e0 (hp16.ext (O0.keep K0 all0).2) (g := (mkF m 159 #[.val (.int i)] [])) rfl (hb hby own_d_method_2_code_159)
                                    obtain ⟨fs, hr, hrun, hended, hW, hsame⟩ := X51.leave (v := some (.ref u16)) (fun h => by rw [Bd.returns] at h; cases h)
                                    refine ⟨_, _, r49 _ ?_, hrun, hended, _, _, rfl, ?_, ⟨_, rfl⟩, hW, hsame.mono (by decide) (by decide)⟩
                                    · show Steps p.tables e below (s₁.setTop (mkF m 156 #[.val (.int i)] [(.int (16 : Int32)), (.int i)])) _
                                      refine XS.icmpNo X0.here hx rfl (hb hby own_d_method_2_code_156) rfl (teq hc50).2 ?_
                                      show Steps p.tables e below (s₁.setTop (mkF m 159 #[.val (.int i)] [])) _
                                      refine st51 _ ?_
                                      show Steps p.tables e below (T51.setTop (mkF m 162 #[.val (.int i)] [(.ref u16)])) _
                                      exact retOut X51 hx (t := (.object "com/example/interfold/interfold/fidl/Token$Kind")) Bd.returns rfl (Or.inr (Or.inr (Or.inr (Or.inr ⟨rfl, rfl, rfl⟩)))) (hb hby own_d_method_2_code_162) hr
                                    · show Q_own_pick Z i u0 u1 u2 u3 u4 u5 u6 u7 u8 u9 u10 u11 u12 u13 u14 u15 u16 u17 u18 u19 h0 n0 _ T51.heap _
                                      rw [e51]
                                      exact ⟨u16, rfl, N0, rfl⟩
                                  · have r52 : GoTo p.tables e below s₁ (own_F_own_pick m i) s₁ (mkF m 166 #[.val (.int i)] [(.int (17 : Int32)), (.int i)]) := fun tt_ kk_ => r49 tt_ (by
                                        show Steps p.tables e below (s₁.setTop (mkF m 156 #[.val (.int i)] [(.int (16 : Int32)), (.int i)])) _
                                        refine XS.icmpYes X0.here hx rfl (pc0 := 156) (pc' := 163) rfl (hb hby own_d_method_2_code_156) rfl (feq hc50).2 (by decide) (by decide) ?_
                                        show Steps p.tables e below (s₁.setTop (mkF m 163 #[.val (.int i)] [])) _
                                        refine XS.iloadN X0.here hx rfl (hb hby own_d_method_2_code_163) rfl ?_
                                        show Steps p.tables e below (s₁.setTop (mkF m 164 #[.val (.int i)] [(.int i)])) _
                                        refine XS.bipush X0.here hx rfl (hb hby own_d_method_2_code_164) ?_
                                        show Steps p.tables e below (s₁.setTop (mkF m 166 #[.val (.int i)] [(.int (17 : Int32)), (.int i)])) _
                                        exact kk_)
                                    by_cases hc53 : i = (17 : Int32)
                                    · obtain ⟨T54, X54, e54, st54⟩ := getS2 X0 hx hZ hown (host := "") (Or.inl (hw _ (List.mem_of_getElem? (i := 113) rfl))) Via.refl e0 (hp17.ext (O0.keep K0 all0).2) (g := (mkF m 169 #[.val (.int i)] [])) rfl (hb hby own_d_method_2_code_169)
                                      obtain ⟨fs, hr, hrun, hended, hW, hsame⟩ := X54.leave (v := some (.ref u17)) (fun h => by rw [Bd.returns] at h; cases h)
                                      refine ⟨_, _, r52 _ ?_, hrun, hended, _, _, rfl, ?_, ⟨_, rfl⟩, hW, hsame.mono (by decide) (by decide)⟩
                                      · show Steps p.tables e below (s₁.setTop (mkF m 166 #[.val (.int i)] [(.int (17 : Int32)), (.int i)])) _
                                        refine XS.icmpNo X0.here hx rfl (hb hby own_d_method_2_code_166) rfl (teq hc53).2 ?_
                                        show Steps p.tables e below (s₁.setTop (mkF m 169 #[.val (.int i)] [])) _
                                        refine st54 _ ?_
                                        show Steps p.tables e below (T54.setTop (mkF m 172 #[.val (.int i)] [(.ref u17)])) _
                                        exact retOut X54 hx (t := (.object "com/example/interfold/interfold/fidl/Token$Kind")) Bd.returns rfl (Or.inr (Or.inr (Or.inr (Or.inr ⟨rfl, rfl, rfl⟩)))) (hb hby own_d_method_2_code_172) hr
                                      · show Q_own_pick Z i u0 u1 u2 u3 u4 u5 u6 u7 u8 u9 u10 u11 u12 u13 u14 u15 u16 u17 u18 u19 h0 n0 _ T54.heap _
                                        rw [e54]
                                        exact ⟨u17, rfl, N0, rfl⟩
                                    · have r55 : GoTo p.tables e below s₁ (own_F_own_pick m i) s₁ (mkF m 176 #[.val (.int i)] [(.int (18 : Int32)), (.int i)]) := fun tt_ kk_ => r52 tt_ (by
                                          show Steps p.tables e below (s₁.setTop (mkF m 166 #[.val (.int i)] [(.int (17 : Int32)), (.int i)])) _
                                          refine XS.icmpYes X0.here hx rfl (pc0 := 166) (pc' := 173) rfl (hb hby own_d_method_2_code_166) rfl (feq hc53).2 (by decide) (by decide) ?_
                                          show Steps p.tables e below (s₁.setTop (mkF m 173 #[.val (.int i)] [])) _
                                          refine XS.iloadN X0.here hx rfl (hb hby own_d_method_2_code_173) rfl ?_
                                          show Steps p.tables e below (s₁.setTop (mkF m 174 #[.val (.int i)] [(.int i)])) _
                                          refine XS.bipush X0.here hx rfl (hb hby own_d_method_2_code_174) ?_
                                          show Steps p.tables e below (s₁.setTop (mkF m 176 #[.val (.int i)] [(.int (18 : Int32)), (.int i)])) _
                                          exact kk_)
                                      by_cases hc56 : i = (18 : Int32)
                                      · obtain ⟨T57, X57, e57, st57⟩ := getS2 X0 hx hZ hown (host := "") (Or.inl (hw _ (List.mem_of_getElem? (i := 97) rfl))) Via.refl e0 (hp18.ext (O0.keep K0 all0).2) (g := (mkF m 179 #[.val (.int i)] [])) rfl (hb hby own_d_method_2_code_179)
                                        obtain ⟨fs, hr, hrun, hended, hW, hsame⟩ := X57.leave (v := some (.ref u18)) (fun h => by rw [Bd.returns] at h; cases h)
                                        refine ⟨_, _, r55 _ ?_, hrun, hended, _, _, rfl, ?_, ⟨_, rfl⟩, hW, hsame.mono (by decide) (by decide)⟩
                                        · show Steps p.tables e below (s₁.setTop (mkF m 176 #[.val (.int i)] [(.int (18 : Int32)), (.int i)])) _
                                          refine XS.icmpNo X0.here hx rfl (hb hby own_d_method_2_code_176) rfl (teq hc56).2 ?_
                                          show Steps p.tables e below (s₁.setTop (mkF m 179 #[.val (.int i)] [])) _
                                          refine st57 _ ?_
                                          show Steps p.tables e below (T57.setTop (mkF m 182 #[.val (.int i)] [(.ref u18)])) _
                                          exact retOut X57 hx (t := (.object "com/example/interfold/interfold/fidl/Token$Kind")) Bd.returns rfl (Or.inr (Or.inr (Or.inr (Or.inr ⟨rfl, rfl, rfl⟩)))) (hb hby own_d_method_2_code_182) hr
                                        · show Q_own_pick Z i u0 u1 u2 u3 u4 u5 u6 u7 u8 u9 u10 u11 u12 u13 u14 u15 u16 u17 u18 u19 h0 n0 _ T57.heap _
                                          rw [e57]
                                          exact ⟨u18, rfl, N0, rfl⟩
                                      · obtain ⟨T58, X58, e58, st58⟩ := getS2 X0 hx hZ hown (host := "") (Or.inl (hw _ (List.mem_of_getElem? (i := 111) rfl))) Via.refl e0 (hp19.ext (O0.keep K0 all0).2) (g := (mkF m 183 #[.val (.int i)] [])) rfl (hb hby own_d_method_2_code_183)
                                        obtain ⟨fs, hr, hrun, hended, hW, hsame⟩ := X58.leave (v := some (.ref u19)) (fun h => by rw [Bd.returns] at h; cases h)
                                        refine ⟨_, _, r55 _ ?_, hrun, hended, _, _, rfl, ?_, ⟨_, rfl⟩, hW, hsame.mono (by decide) (by decide)⟩
                                        · show Steps p.tables e below (s₁.setTop (mkF m 176 #[.val (.int i)] [(.int (18 : Int32)), (.int i)])) _
                                          refine XS.icmpYes X0.here hx rfl (pc0 := 176) (pc' := 183) rfl (hb hby own_d_method_2_code_176) rfl (feq hc56).2 (by decide) (by decide) ?_
                                          show Steps p.tables e below (s₁.setTop (mkF m 183 #[.val (.int i)] [])) _
                                          refine st58 _ ?_
                                          show Steps p.tables e below (T58.setTop (mkF m 186 #[.val (.int i)] [(.ref u19)])) _
                                          exact retOut X58 hx (t := (.object "com/example/interfold/interfold/fidl/Token$Kind")) Bd.returns rfl (Or.inr (Or.inr (Or.inr (Or.inr ⟨rfl, rfl, rfl⟩)))) (hb hby own_d_method_2_code_186) hr
                                        · show Q_own_pick Z i u0 u1 u2 u3 u4 u5 u6 u7 u8 u9 u10 u11 u12 u13 u14 u15 u16 u17 u18 u19 h0 n0 _ T58.heap _
                                          rw [e58]
                                          exact ⟨u19, rfl, N0, rfl⟩
theorem own_pn_own_tin : plainName "com/example/interfold/interfold/fidl/Token" = true := by first | (simp [plainName, overriddenIn]; done) | decide +kernel
theorem own_ef_own_tin (m : MethodId) (a : Addr) : entryFrame m #[(.ref a)] 1 = mkF m 0 #[.val (.ref a)] [] := by first | (simp [entryFrame, mkF, argsToLocals, own_cI, own_cJ, own_cR, own_cN]; done) | rfl
abbrev own_F_own_tin (m : MethodId) (a : Addr) : JFrame := entryFrame m #[(.ref a)] 1
def Q_own_tin (Z : State) (a : Addr) (h0 : Heap) (n0 : Nat) (v : Option Value) (h : Heap) (L : List Loc) : Prop := v = none ∧ Fr n0 L ∧ h = h0
set_option maxRecDepth 65536 in
set_option maxHeartbeats 40000000 in
theorem own_tin (l : Launch) (Z : State) (a0 : Array Value) (hw : ∀ d ∈ tables_1, d.before a0 Z = true) (ws : List Jvm.Cond) (a : Addr) (h0 : Heap) (n0 : Nat) (O0 : Old Z n0 h0) :
    MetFree l (⟨"com/example/interfold/interfold/fidl/Token", "<init>", "()V"⟩ : MethodName) (head1 (Jvm.Cond.code (⟨"com/example/interfold/interfold/fidl/Token", "<init>", "()V"⟩ : MethodName) prog_109_method_1_code 1 none :: ws) ({ frames := 1, cells := 0, slots := 0, locals := 12 } : Room)) (fun aa_ U_ => aa_ = #[(.ref a)] ∧ Z.Warmed39 U_.vm ∧ U_.heap = h0) (fun _ _ _ _ _ => True) (fun _ U_ o_ V_ => ∃ v_ L_, o_ = .returned v_ ∧ Q_own_tin Z a h0 n0 v_ V_.heap L_ ∧ FrameEnd U_ o_ V_ L_ ({ frames := 1, cells := 0, slots := 0, locals := 12 } : Room).cells ({ frames := 1, cells := 0, slots := 0, locals := 12 } : Room).slots) := by
  refine MetFree.of_bodySF (plainFor_of_name own_pn_own_tin) hisR ?_
  intro p e s m args below meth c s₁ Bd hml0 hP hK
  obtain ⟨rfl, hZ, hh⟩ := hP
  have hx := Bd.exec
  have hby := Bd.bytes
  have hml : c.maxLocals = 1 := hml0
  have hown : s.vm.findClass "com/example/interfold/interfold/fidl/Token" = some m.cls := findClass_of_methodNamed Bd.named
  have hnm := (name_of_methodNamed Bd.named Bd.method).1
  have X0 : Stand p l e ({ frames := 1, cells := 0, slots := 0, locals := 12 } : Room) s m #[(.ref a)] below meth c s₁ [] 0 0 := Stand.of_body Bd
  have e0 : s₁.heap = h0 := by rw [← hh, Bd.state]; rfl
  have N0 := Fr.nil n0
  have K0 : Keep h0 h0 [] := Keep.refl _ _
  have r0 : GoTo p.tables e below s₁ (own_F_own_tin m a) s₁ (mkF m 0 #[.val (.ref a)] []) := fun tt_ kk_ => castTop (own_ef_own_tin m a) kk_
  obtain ⟨T1, X1, e1, st1⟩ := initO X0 hx hZ hown (hw _ (List.mem_of_getElem? (i := 13) rfl)) (hw _ (List.mem_of_getElem? (i := 14) rfl)) (hw _ (List.mem_of_getElem? (i := 15) rfl)) e0 (g := (mkF m 1 #[.val (.ref a)] [(.ref a)])) rfl (by rw [hml]; rfl) rfl (hb hby own_d_prog_109_method_1_code_1) (by decide) (W := 0) (by show 2 * 0 + _ ≤ _; exact Nat.le_of_eq rfl) (by decide)
  obtain ⟨fs, hr, hrun, hended, hW, hsame⟩ := X1.leave (v := none) (fun _ => rfl)
  refine ⟨_, _, r0 _ ?_, hrun, hended, _, _, rfl, ?_, ⟨_, rfl⟩, hW, hsame.mono (by decide) (by decide)⟩
  · show Steps p.tables e below (s₁.setTop (mkF m 0 #[.val (.ref a)] [])) _
    refine XS.aloadN X0.here hx rfl (hb hby own_d_prog_109_method_1_code_0) rfl rfl ?_
    show Steps p.tables e below (s₁.setTop (mkF m 1 #[.val (.ref a)] [(.ref a)])) _
    refine st1 _ ?_
    show Steps p.tables e below (T1.setTop (mkF m 4 #[.val (.ref a)] [])) _
    exact X1.returnOut hx Bd.returns (hb hby own_d_prog_109_method_1_code_4) hr
  · show Q_own_tin Z a h0 n0 _ T1.heap _
    rw [e1]
    exact ⟨rfl, N0, rfl⟩
theorem own_pn_own_set : plainName "com/example/interfold/interfold/fidl/Token" = true := by first | (simp [plainName, overriddenIn]; done) | decide +kernel
theorem own_ef_own_set (m : MethodId) (a : Addr) (kd : Addr) (i1 : Int32) (i2 : Int32) (sv : Value) (hcv0 : sv.category = 1) : entryFrame m #[(.ref a), (.ref kd), (.int i1), (.int i2), sv] 5 = mkF m 0 #[.val (.ref a), .val (.ref kd), .val (.int i1), .val (.int i2), .val sv] [] := by first | (simp [entryFrame, mkF, argsToLocals, own_cI, own_cJ, own_cR, own_cN, hcv0]; done) | rfl
abbrev own_F_own_set (m : MethodId) (a : Addr) (kd : Addr) (i1 : Int32) (i2 : Int32) (sv : Value) : JFrame := entryFrame m #[(.ref a), (.ref kd), (.int i1), (.int i2), sv] 5
def Q_own_set (Z : State) (a : Addr) (kd : Addr) (i1 : Int32) (i2 : Int32) (sv : Value) (o0 : Value) (o1 : Value) (o2 : Value) (o3 : Value) (h0 : Heap) (n0 : Nat) (v : Option Value) (h : Heap) (L : List Loc) : Prop := v = none ∧ Fr n0 L ∧ Keep h0 h [a] ∧ (Exa Z h a "com/example/interfold/interfold/fidl/Token") ∧ (Fld Z h a "com/example/interfold/interfold/fidl/Token" "kind" "Lcom/example/interfold/interfold/fidl/Token$Kind;" (.ref kd)) ∧ (Fld Z h a "com/example/interfold/interfold/fidl/Token" "start" "I" (.int i1)) ∧ (Fld Z h a "com/example/interfold/interfold/fidl/Token" "end" "I" (.int i2)) ∧ (Fld Z h a "com/example/interfold/interfold/fidl/Token" "value" "Ljava/lang/String;" sv)
set_option maxRecDepth 65536 in
set_option maxHeartbeats 40000000 in
theorem own_set (l : Launch) (Z : State) (a0 : Array Value) (hw : ∀ d ∈ tables_1, d.before a0 Z = true) (ws : List Jvm.Cond) (a : Addr) (kd : Addr) (i1 : Int32) (i2 : Int32) (sv : Value) (o0 : Value) (o1 : Value) (o2 : Value) (o3 : Value) (h0 : Heap) (n0 : Nat) (O0 : Old Z n0 h0) (hsv : sv.isRef = true) (hp1 : Exa Z h0 a "com/example/interfold/interfold/fidl/Token") (hp2 : n0 ≤ a) (hp3 : Fld Z h0 a "com/example/interfold/interfold/fidl/Token" "kind" "Lcom/example/interfold/interfold/fidl/Token$Kind;" o0) (hp4 : Fld Z h0 a "com/example/interfold/interfold/fidl/Token" "start" "I" o1) (hp5 : Fld Z h0 a "com/example/interfold/interfold/fidl/Token" "end" "I" o2) (hp6 : Fld Z h0 a "com/example/interfold/interfold/fidl/Token" "value" "Ljava/lang/String;" o3) :
    MetFree l (⟨"com/example/interfold/interfold/fidl/Token", "set", "(Lcom/example/interfold/interfold/fidl/Token$Kind;IILjava/lang/String;)V"⟩ : MethodName) (head1 (Jvm.Cond.code (⟨"com/example/interfold/interfold/fidl/Token", "set", "(Lcom/example/interfold/interfold/fidl/Token$Kind;IILjava/lang/String;)V"⟩ : MethodName) prog_109_method_2_code 5 none :: ws) ({ frames := 0, cells := 0, slots := 0, locals := 0 } : Room)) (fun aa_ U_ => aa_ = #[(.ref a), (.ref kd), (.int i1), (.int i2), sv] ∧ Z.Warmed39 U_.vm ∧ U_.heap = h0) (fun _ _ _ _ _ => True) (fun _ U_ o_ V_ => ∃ v_ L_, o_ = .returned v_ ∧ Q_own_set Z a kd i1 i2 sv o0 o1 o2 o3 h0 n0 v_ V_.heap L_ ∧ FrameEnd U_ o_ V_ L_ ({ frames := 0, cells := 0, slots := 0, locals := 0 } : Room).cells ({ frames := 0, cells := 0, slots := 0, locals := 0 } : Room).slots) := by
  refine MetFree.of_bodySF (plainFor_of_name own_pn_own_set) hisR ?_
  intro p e s m args below meth c s₁ Bd hml0 hP hK
  obtain ⟨rfl, hZ, hh⟩ := hP
  have hx := Bd.exec
  have hby := Bd.bytes
  have hml : c.maxLocals = 5 := hml0
  have hown : s.vm.findClass "com/example/interfold/interfold/fidl/Token" = some m.cls := findClass_of_methodNamed Bd.named
  have hnm := (name_of_methodNamed Bd.named Bd.method).1
  have X0 : Stand p l e ({ frames := 0, cells := 0, slots := 0, locals := 0 } : Room) s m #[(.ref a), (.ref kd), (.int i1), (.int i2), sv] below meth c s₁ [] 0 0 := Stand.of_body Bd
  have e0 : s₁.heap = h0 := by rw [← hh, Bd.state]; rfl
  have N0 := Fr.nil n0
  have K0 : Keep h0 h0 [a] := Keep.refl _ _
  have r0 : GoTo p.tables e below s₁ (own_F_own_set m a kd i1 i2 sv) s₁ (mkF m 0 #[.val (.ref a), .val (.ref kd), .val (.int i1), .val (.int i2), .val sv] []) := fun tt_ kk_ => castTop (own_ef_own_set m a kd i1 i2 sv (own_cat hsv)) kk_
  obtain ⟨T1, h1, X1, e1, W1, st1⟩ := putF X0 hx hZ hown (host := "") (Or.inl (hw _ (List.mem_of_getElem? (i := 21) rfl))) Via.refl e0 hp3 hp1 (Or.inl (hw _ (List.mem_of_getElem? (i := 22) rfl))) (hw _ (List.mem_of_getElem? (i := 8) rfl)) (ty := (.object "com/example/interfold/interfold/fidl/Token$Kind")) (by decide) rfl rfl (g := (mkF m 2 #[.val (.ref a), .val (.ref kd), .val (.int i1), .val (.int i2), .val sv] [(.ref kd), (.ref a)])) rfl rfl (hb hby own_d_prog_109_method_2_code_2)
  have K2 : Keep h0 h1 [a] := K0.wr W1 (Or.inl (List.mem_of_getElem? (i := 0) rfl))
  have Fw1 : Fld Z h1 a "com/example/interfold/interfold/fidl/Token" "kind" "Lcom/example/interfold/interfold/fidl/Token$Kind;" (.ref kd) := hp3.same W1
  have N1 := Fr.snoc X1 N0 hp2
  have f3 : Fld Z h1 a "com/example/interfold/interfold/fidl/Token" "start" "I" o1 := (hp4.other W1 (Or.inr (Jvm.RoadKit.slot_ne (Or.inl (hw _ (List.mem_of_getElem? (i := 24) rfl))) (Or.inl (hw _ (List.mem_of_getElem? (i := 22) rfl))) (by decide) (t := .int) (t' := (.object "com/example/interfold/interfold/fidl/Token$Kind")) (by decide) (by decide))))
  have f4 : Exa Z h1 a "com/example/interfold/interfold/fidl/Token" := (hp1.wr W1)
  obtain ⟨T5, h5, X5, e5, W5, st5⟩ := putF X1 hx hZ hown (host := "") (Or.inl (hw _ (List.mem_of_getElem? (i := 23) rfl))) Via.refl e1 f3 f4 (Or.inl (hw _ (List.mem_of_getElem? (i := 24) rfl))) (hw _ (List.mem_of_getElem? (i := 8) rfl)) (ty := .int) (by decide) rfl rfl (g := (mkF m 7 #[.val (.ref a), .val (.ref kd), .val (.int i1), .val (.int i2), .val sv] [(.int i1), (.ref a)])) rfl rfl (hb hby own_d_prog_109_method_2_code_7)
  have K6 : Keep h0 h5 [a] := K2.wr W5 (Or.inl (List.mem_of_getElem? (i := 0) rfl))
  have Fw5 : Fld Z h5 a "com/example/interfold/interfold/fidl/Token" "start" "I" (.int i1) := f3.same W5
  have N5 := Fr.snoc X5 N1 hp2
  have f7 : Fld Z h5 a "com/example/interfold/interfold/fidl/Token" "end" "I" o2 := ((hp5.other W1 (Or.inr (Jvm.RoadKit.slot_ne (Or.inl (hw _ (List.mem_of_getElem? (i := 26) rfl))) (Or.inl (hw _ (List.mem_of_getElem? (i := 22) rfl))) (by decide) (t := .int) (t' := (.object "com/example/interfold/interfold/fidl/Token$Kind")) (by decide) (by decide)))).other W5 (Or.inr (Jvm.RoadKit.slot_ne (Or.inl (hw _ (List.mem_of_getElem? (i := 26) rfl))) (Or.inl (hw _ (List.mem_of_getElem? (i := 24) rfl))) (by decide) (t := .int) (t' := .int) (by decide) (by decide))))
  have f8 : Exa Z h5 a "com/example/interfold/interfold/fidl/Token" := (f4.wr W5)
  obtain ⟨T9, h9, X9, e9, W9, st9⟩ := putF X5 hx hZ hown (host := "") (Or.inl (hw _ (List.mem_of_getElem? (i := 25) rfl))) Via.refl e5 f7 f8 (Or.inl (hw _ (List.mem_of_getElem? (i := 26) rfl))) (hw _ (List.mem_of_getElem? (i := 8) rfl)) (ty := .int) (by decide) rfl rfl (g := (mkF m 12 #[.val (.ref a), .val (.ref kd), .val (.int i1), .val (.int i2), .val sv] [(.int i2), (.ref a)])) rfl rfl (hb hby own_d_prog_109_method_2_code_12)
  have K10 : Keep h0 h9 [a] := K6.wr W9 (Or.inl (List.mem_of_getElem? (i := 0) rfl))
  have Fw9 : Fld Z h9 a "com/example/interfold/interfold/fidl/Token" "end" "I" (.int i2) := f7.same W9
  have N9 := Fr.snoc X9 N5 hp2
  have f11 : Fld Z h9 a "com/example/interfold/interfold/fidl/Token" "value" "Ljava/lang/String;" o3 := (((hp6.other W1 (Or.inr (Jvm.RoadKit.slot_ne (Or.inl (hw _ (List.mem_of_getElem? (i := 28) rfl))) (Or.inl (hw _ (List.mem_of_getElem? (i := 22) rfl))) (by decide) (t := (.object "java/lang/String")) (t' := (.object "com/example/interfold/interfold/fidl/Token$Kind")) (by decide) (by decide)))).other W5 (Or.inr (Jvm.RoadKit.slot_ne (Or.inl (hw _ (List.mem_of_getElem? (i := 28) rfl))) (Or.inl (hw _ (List.mem_of_getElem? (i := 24) rfl))) (by decide) (t := (.object "java/lang/String")) (t' := .int) (by decide) (by decide)))).other W9 (Or.inr (Jvm.RoadKit.slot_ne (Or.inl (hw _ (List.mem_of_getElem? (i := 28) rfl))) (Or.inl (hw _ (List.mem_of_getElem? (i := 26) rfl))) (by decide) (t := (.object "java/lang/String")) (t' := .int) (by decide) (by decide))))
  have f12 : Exa Z h9 a "com/example/interfold/interfold/fidl/Token" := (f8.wr W9)
  obtain ⟨T13, h13, X13, e13, W13, st13⟩ := putF X9 hx hZ hown (host := "") (Or.inl (hw _ (List.mem_of_getElem? (i := 27) rfl))) Via.refl e9 f11 f12 (Or.inl (hw _ (List.mem_of_getElem? (i := 28) rfl))) (hw _ (List.mem_of_getElem? (i := 8) rfl)) (ty := (.object "java/lang/String")) (by decide) rfl (own_fits_ref (by decide) hsv) (g := (mkF m 18 #[.val (.ref a), .val (.ref kd), .val (.int i1), .val (.int i2), .val sv] [sv, (.ref a)])) rfl rfl (hb hby own_d_prog_109_method_2_code_18)
  have K14 : Keep h0 h13 [a] := K10.wr W13 (Or.inl (List.mem_of_getElem? (i := 0) rfl))
  have Fw13 : Fld Z h13 a "com/example/interfold/interfold/fidl/Token" "value" "Ljava/lang/String;" sv := f11.same W13
  have N13 := Fr.snoc X13 N9 hp2
  obtain ⟨fs, hr, hrun, hended, hW, hsame⟩ := X13.leave (v := none) (fun _ => rfl)
  refine ⟨_, _, r0 _ ?_, hrun, hended, _, _, rfl, ?_, ⟨_, rfl⟩, hW, hsame.mono (by decide) (by decide)⟩
  · show Steps p.tables e below (s₁.setTop (mkF m 0 #[.val (.ref a), .val (.ref kd), .val (.int i1), .val (.int i2), .val sv] [])) _
    refine XS.aloadN X0.here hx rfl (hb hby own_d_prog_109_method_2_code_0) rfl rfl ?_
    show Steps p.tables e below (s₁.setTop (mkF m 1 #[.val (.ref a), .val (.ref kd), .val (.int i1), .val (.int i2), .val sv] [(.ref a)])) _
    refine XS.aloadN X0.here hx rfl (hb hby own_d_prog_109_method_2_code_1) rfl rfl ?_
    show Steps p.tables e below (s₁.setTop (mkF m 2 #[.val (.ref a), .val (.ref kd), .val (.int i1), .val (.int i2), .val sv] [(.ref kd), (.ref a)])) _
    refine st1 _ ?_
    show Steps p.tables e below (T1.setTop (mkF m 5 #[.val (.ref a), .val (.ref kd), .val (.int i1), .val (.int i2), .val sv] [])) _
    refine XS.aloadN X1.here hx rfl (hb hby own_d_prog_109_method_2_code_5) rfl rfl ?_
    show Steps p.tables e below (T1.setTop (mkF m 6 #[.val (.ref a), .val (.ref kd), .val (.int i1), .val (.int i2), .val sv] [(.ref a)])) _
    refine XS.iloadN X1.here hx rfl (hb hby own_d_prog_109_method_2_code_6) rfl ?_
    show Steps p.tables e below (T1.setTop (mkF m 7 #[.val (.ref a), .val (.ref kd), .val (.int i1), .val (.int i2), .val sv] [(.int i1), (.ref a)])) _
    refine st5 _ ?_
    show Steps p.tables e below (T5.setTop (mkF m 10 #[.val (.ref a), .val (.ref kd), .val (.int i1), .val (.int i2), .val sv] [])) _
    refine XS.aloadN X5.here hx rfl (hb hby own_d_prog_109_method_2_code_10) rfl rfl ?_
    show Steps p.tables e below (T5.setTop (mkF m 11 #[.val (.ref a), .val (.ref kd), .val (.int i1), .val (.int i2), .val sv] [(.ref a)])) _
    refine XS.iloadN X5.here hx rfl (hb hby own_d_prog_109_method_2_code_11) rfl ?_
    show Steps p.tables e below (T5.setTop (mkF m 12 #[.val (.ref a), .val (.ref kd), .val (.int i1), .val (.int i2), .val sv] [(.int i2), (.ref a)])) _
    refine st9 _ ?_
    show Steps p.tables e below (T9.setTop (mkF m 15 #[.val (.ref a), .val (.ref kd), .val (.int i1), .val (.int i2), .val sv] [])) _
    refine XS.aloadN X9.here hx rfl (hb hby own_d_prog_109_method_2_code_15) rfl rfl ?_
    show Steps p.tables e below (T9.setTop (mkF m 16 #[.val (.ref a), .val (.ref kd), .val (.int i1), .val (.int i2), .val sv] [(.ref a)])) _
    refine XS.aload X9.here hx rfl (hb hby own_d_prog_109_method_2_code_16) rfl hsv ?_
    show Steps p.tables e below (T9.setTop (mkF m 18 #[.val (.ref a), .val (.ref kd), .val (.int i1), .val (.int i2), .val sv] [sv, (.ref a)])) _
    refine st13 _ ?_
    show Steps p.tables e below (T13.setTop (mkF m 21 #[.val (.ref a), .val (.ref kd), .val (.int i1), .val (.int i2), .val sv] [])) _
    exact X13.returnOut hx Bd.returns (hb hby own_d_prog_109_method_2_code_21) hr
  · show Q_own_set Z a kd i1 i2 sv o0 o1 o2 o3 h0 n0 _ T13.heap _
    rw [e13]
    have f15 : Exa Z h13 a "com/example/interfold/interfold/fidl/Token" := (f12.wr W13)
    have f16 : Fld Z h13 a "com/example/interfold/interfold/fidl/Token" "kind" "Lcom/example/interfold/interfold/fidl/Token$Kind;" (.ref kd) := (((Fw1.other W5 (Or.inr (Jvm.RoadKit.slot_ne (Or.inl (hw _ (List.mem_of_getElem? (i := 22) rfl))) (Or.inl (hw _ (List.mem_of_getElem? (i := 24) rfl))) (by decide) (t := (.object "com/example/interfold/interfold/fidl/Token$Kind")) (t' := .int) (by decide) (by decide)))).other W9 (Or.inr (Jvm.RoadKit.slot_ne (Or.inl (hw _ (List.mem_of_getElem? (i := 22) rfl))) (Or.inl (hw _ (List.mem_of_getElem? (i := 26) rfl))) (by decide) (t := (.object "com/example/interfold/interfold/fidl/Token$Kind")) (t' := .int) (by decide) (by decide)))).other W13 (Or.inr (Jvm.RoadKit.slot_ne (Or.inl (hw _ (List.mem_of_getElem? (i := 22) rfl))) (Or.inl (hw _ (List.mem_of_getElem? (i := 28) rfl))) (by decide) (t := (.object "com/example/interfold/interfold/fidl/Token$Kind")) (t' := (.object "java/lang/String")) (by decide) (by decide))))
    have f17 : Fld Z h13 a "com/example/interfold/interfold/fidl/Token" "start" "I" (.int i1) := ((Fw5.other W9 (Or.inr (Jvm.RoadKit.slot_ne (Or.inl (hw _ (List.mem_of_getElem? (i := 24) rfl))) (Or.inl (hw _ (List.mem_of_getElem? (i := 26) rfl))) (by decide) (t := .int) (t' := .int) (by decide) (by decide)))).other W13 (Or.inr (Jvm.RoadKit.slot_ne (Or.inl (hw _ (List.mem_of_getElem? (i := 24) rfl))) (Or.inl (hw _ (List.mem_of_getElem? (i := 28) rfl))) (by decide) (t := .int) (t' := (.object "java/lang/String")) (by decide) (by decide))))
    have f18 : Fld Z h13 a "com/example/interfold/interfold/fidl/Token" "end" "I" (.int i2) := (Fw9.other W13 (Or.inr (Jvm.RoadKit.slot_ne (Or.inl (hw _ (List.mem_of_getElem? (i := 26) rfl))) (Or.inl (hw _ (List.mem_of_getElem? (i := 28) rfl))) (by decide) (t := .int) (t' := (.object "java/lang/String")) (by decide) (by decide))))
    exact ⟨rfl, N13, K14, f15, f16, f17, f18, Fw13⟩
theorem own_pn_own_kind : plainName "com/example/interfold/interfold/fidl/Token" = true := by first | (simp [plainName, overriddenIn]; done) | decide +kernel
theorem own_ef_own_kind (m : MethodId) (a : Addr) : entryFrame m #[(.ref a)] 1 = mkF m 0 #[.val (.ref a)] [] := by first | (simp [entryFrame, mkF, argsToLocals, own_cI, own_cJ, own_cR, own_cN]; done) | rfl
abbrev own_F_own_kind (m : MethodId) (a : Addr) : JFrame := entryFrame m #[(.ref a)] 1
def Q_own_kind (Z : State) (a : Addr) (kd : Addr) (h0 : Heap) (n0 : Nat) (v : Option Value) (h : Heap) (L : List Loc) : Prop := v = some (.ref kd) ∧ Fr n0 L ∧ h = h0
set_option maxRecDepth 65536 in
set_option maxHeartbeats 40000000 in
theorem own_kind (l : Launch) (Z : State) (a0 : Array Value) (hw : ∀ d ∈ tables_1, d.before a0 Z = true) (ws : List Jvm.Cond) (a : Addr) (kd : Addr) (h0 : Heap) (n0 : Nat) (O0 : Old Z n0 h0) (hp0 : Fld Z h0 a "com/example/interfold/interfold/fidl/Token" "kind" "Lcom/example/interfold/interfold/fidl/Token$Kind;" (.ref kd)) :
    MetFree l (⟨"com/example/interfold/interfold/fidl/Token", "kind", "()Lcom/example/interfold/interfold/fidl/Token$Kind;"⟩ : MethodName) (head1 (Jvm.Cond.code (⟨"com/example/interfold/interfold/fidl/Token", "kind", "()Lcom/example/interfold/interfold/fidl/Token$Kind;"⟩ : MethodName) prog_109_method_3_code 1 (some (.object "com/example/interfold/interfold/fidl/Token$Kind")) :: ws) ({ frames := 0, cells := 0, slots := 0, locals := 0 } : Room)) (fun aa_ U_ => aa_ = #[(.ref a)] ∧ Z.Warmed39 U_.vm ∧ U_.heap = h0) (fun _ _ _ _ _ => True) (fun _ U_ o_ V_ => ∃ v_ L_, o_ = .returned v_ ∧ Q_own_kind Z a kd h0 n0 v_ V_.heap L_ ∧ FrameEnd U_ o_ V_ L_ ({ frames := 0, cells := 0, slots := 0, locals := 0 } : Room).cells ({ frames := 0, cells := 0, slots := 0, locals := 0 } : Room).slots) := by
  refine MetFree.of_bodySF (plainFor_of_name own_pn_own_kind) hisR ?_
  intro p e s m args below meth c s₁ Bd hml0 hP hK
  obtain ⟨rfl, hZ, hh⟩ := hP
  have hx := Bd.exec
  have hby := Bd.bytes
  have hml : c.maxLocals = 1 := hml0
  have hown : s.vm.findClass "com/example/interfold/interfold/fidl/Token" = some m.cls := findClass_of_methodNamed Bd.named
  have hnm := (name_of_methodNamed Bd.named Bd.method).1
  have X0 : Stand p l e ({ frames := 0, cells := 0, slots := 0, locals := 0 } : Room) s m #[(.ref a)] below meth c s₁ [] 0 0 := Stand.of_body Bd
  have e0 : s₁.heap = h0 := by rw [← hh, Bd.state]; rfl
  have N0 := Fr.nil n0
  have K0 : Keep h0 h0 [] := Keep.refl _ _
  have r0 : GoTo p.tables e below s₁ (own_F_own_kind m a) s₁ (mkF m 0 #[.val (.ref a)] []) := fun tt_ kk_ => castTop (own_ef_own_kind m a) kk_
  obtain ⟨T1, X1, e1, st1⟩ := getF X0 hx hZ hown (host := "") (Or.inl (hw _ (List.mem_of_getElem? (i := 21) rfl))) Via.refl e0 hp0 (g := (mkF m 1 #[.val (.ref a)] [(.ref a)])) rfl rfl (hb hby own_d_prog_109_method_3_code_1)
  obtain ⟨fs, hr, hrun, hended, hW, hsame⟩ := X1.leave (v := some (.ref kd)) (fun h => by rw [Bd.returns] at h; cases h)
  refine ⟨_, _, r0 _ ?_, hrun, hended, _, _, rfl, ?_, ⟨_, rfl⟩, hW, hsame.mono (by decide) (by decide)⟩
  · show Steps p.tables e below (s₁.setTop (mkF m 0 #[.val (.ref a)] [])) _
    refine XS.aloadN X0.here hx rfl (hb hby own_d_prog_109_method_3_code_0) rfl rfl ?_
    show Steps p.tables e below (s₁.setTop (mkF m 1 #[.val (.ref a)] [(.ref a)])) _
    refine st1 _ ?_
    show Steps p.tables e below (T1.setTop (mkF m 4 #[.val (.ref a)] [(.ref kd)])) _
    exact retOut X1 hx (t := (.object "com/example/interfold/interfold/fidl/Token$Kind")) Bd.returns rfl (Or.inr (Or.inr (Or.inr (Or.inr ⟨rfl, rfl, rfl⟩)))) (hb hby own_d_prog_109_method_3_code_4) hr
  · show Q_own_kind Z a kd h0 n0 _ T1.heap _
    rw [e1]
    exact ⟨rfl, N0, rfl⟩
theorem own_pn_own_start : plainName "com/example/interfold/interfold/fidl/Token" = true := by first | (simp [plainName, overriddenIn]; done) | decide +kernel
theorem own_ef_own_start (m : MethodId) (a : Addr) : entryFrame m #[(.ref a)] 1 = mkF m 0 #[.val (.ref a)] [] := by first | (simp [entryFrame, mkF, argsToLocals, own_cI, own_cJ, own_cR, own_cN]; done) | rfl
abbrev own_F_own_start (m : MethodId) (a : Addr) : JFrame := entryFrame m #[(.ref a)] 1
def Q_own_start (Z : State) (a : Addr) (i : Int32) (h0 : Heap) (n0 : Nat) (v : Option Value) (h : Heap) (L : List Loc) : Prop := v = some (.int i) ∧ Fr n0 L ∧ h = h0
set_option maxRecDepth 65536 in
set_option maxHeartbeats 40000000 in
theorem own_start (l : Launch) (Z : State) (a0 : Array Value) (hw : ∀ d ∈ tables_1, d.before a0 Z = true) (ws : List Jvm.Cond) (a : Addr) (i : Int32) (h0 : Heap) (n0 : Nat) (O0 : Old Z n0 h0) (hp0 : Fld Z h0 a "com/example/interfold/interfold/fidl/Token" "start" "I" (.int i)) :
    MetFree l (⟨"com/example/interfold/interfold/fidl/Token", "start", "()I"⟩ : MethodName) (head1 (Jvm.Cond.code (⟨"com/example/interfold/interfold/fidl/Token", "start", "()I"⟩ : MethodName) prog_109_method_4_code 1 (some .int) :: ws) ({ frames := 0, cells := 0, slots := 0, locals := 0 } : Room)) (fun aa_ U_ => aa_ = #[(.ref a)] ∧ Z.Warmed39 U_.vm ∧ U_.heap = h0) (fun _ _ _ _ _ => True) (fun _ U_ o_ V_ => ∃ v_ L_, o_ = .returned v_ ∧ Q_own_start Z a i h0 n0 v_ V_.heap L_ ∧ FrameEnd U_ o_ V_ L_ ({ frames := 0, cells := 0, slots := 0, locals := 0 } : Room).cells ({ frames := 0, cells := 0, slots := 0, locals := 0 } : Room).slots) := by
  refine MetFree.of_bodySF (plainFor_of_name own_pn_own_start) hisR ?_
  intro p e s m args below meth c s₁ Bd hml0 hP hK
  obtain ⟨rfl, hZ, hh⟩ := hP
  have hx := Bd.exec
  have hby := Bd.bytes
  have hml : c.maxLocals = 1 := hml0
  have hown : s.vm.findClass "com/example/interfold/interfold/fidl/Token" = some m.cls := findClass_of_methodNamed Bd.named
  have hnm := (name_of_methodNamed Bd.named Bd.method).1
  have X0 : Stand p l e ({ frames := 0, cells := 0, slots := 0, locals := 0 } : Room) s m #[(.ref a)] below meth c s₁ [] 0 0 := Stand.of_body Bd
  have e0 : s₁.heap = h0 := by rw [← hh, Bd.state]; rfl
  have N0 := Fr.nil n0
  have K0 : Keep h0 h0 [] := Keep.refl _ _
  have r0 : GoTo p.tables e below s₁ (own_F_own_start m a) s₁ (mkF m 0 #[.val (.ref a)] []) := fun tt_ kk_ => castTop (own_ef_own_start m a) kk_
  obtain ⟨T1, X1, e1, st1⟩ := getF X0 hx hZ hown (host := "") (Or.inl (hw _ (List.mem_of_getElem? (i := 23) rfl))) Via.refl e0 hp0 (g := (mkF m 1 #[.val (.ref a)] [(.ref a)])) rfl rfl (hb hby own_d_prog_109_method_4_code_1)
  obtain ⟨fs, hr, hrun, hended, hW, hsame⟩ := X1.leave (v := some (.int i)) (fun h => by rw [Bd.returns] at h; cases h)
  refine ⟨_, _, r0 _ ?_, hrun, hended, _, _, rfl, ?_, ⟨_, rfl⟩, hW, hsame.mono (by decide) (by decide)⟩
  · show Steps p.tables e below (s₁.setTop (mkF m 0 #[.val (.ref a)] [])) _
    refine XS.aloadN X0.here hx rfl (hb hby own_d_prog_109_method_4_code_0) rfl rfl ?_
    show Steps p.tables e below (s₁.setTop (mkF m 1 #[.val (.ref a)] [(.ref a)])) _
    refine st1 _ ?_
    show Steps p.tables e below (T1.setTop (mkF m 4 #[.val (.ref a)] [(.int i)])) _
    exact retI X1 hx Bd.returns (hb hby own_d_prog_109_method_4_code_4) hr
  · show Q_own_start Z a i h0 n0 _ T1.heap _
    rw [e1]
    exact ⟨rfl, N0, rfl⟩
theorem own_pn_own_endd : plainName "com/example/interfold/interfold/fidl/Token" = true := by first | (simp [plainName, overriddenIn]; done) | decide +kernel
theorem own_ef_own_endd (m : MethodId) (a : Addr) : entryFrame m #[(.ref a)] 1 = mkF m 0 #[.val (.ref a)] [] := by first | (simp [entryFrame, mkF, argsToLocals, own_cI, own_cJ, own_cR, own_cN]; done) | rfl
abbrev own_F_own_endd (m : MethodId) (a : Addr) : JFrame := entryFrame m #[(.ref a)] 1
def Q_own_endd (Z : State) (a : Addr) (i : Int32) (h0 : Heap) (n0 : Nat) (v : Option Value) (h : Heap) (L : List Loc) : Prop := v = some (.int i) ∧ Fr n0 L ∧ h = h0
set_option maxRecDepth 65536 in
set_option maxHeartbeats 40000000 in
theorem own_endd (l : Launch) (Z : State) (a0 : Array Value) (hw : ∀ d ∈ tables_1, d.before a0 Z = true) (ws : List Jvm.Cond) (a : Addr) (i : Int32) (h0 : Heap) (n0 : Nat) (O0 : Old Z n0 h0) (hp0 : Fld Z h0 a "com/example/interfold/interfold/fidl/Token" "end" "I" (.int i)) :
    MetFree l (⟨"com/example/interfold/interfold/fidl/Token", "end", "()I"⟩ : MethodName) (head1 (Jvm.Cond.code (⟨"com/example/interfold/interfold/fidl/Token", "end", "()I"⟩ : MethodName) prog_109_method_5_code 1 (some .int) :: ws) ({ frames := 0, cells := 0, slots := 0, locals := 0 } : Room)) (fun aa_ U_ => aa_ = #[(.ref a)] ∧ Z.Warmed39 U_.vm ∧ U_.heap = h0) (fun _ _ _ _ _ => True) (fun _ U_ o_ V_ => ∃ v_ L_, o_ = .returned v_ ∧ Q_own_endd Z a i h0 n0 v_ V_.heap L_ ∧ FrameEnd U_ o_ V_ L_ ({ frames := 0, cells := 0, slots := 0, locals := 0 } : Room).cells ({ frames := 0, cells := 0, slots := 0, locals := 0 } : Room).slots) := by
  refine MetFree.of_bodySF (plainFor_of_name own_pn_own_endd) hisR ?_
  intro p e s m args below meth c s₁ Bd hml0 hP hK
  obtain ⟨rfl, hZ, hh⟩ := hP
  have hx := Bd.exec
  have hby := Bd.bytes
  have hml : c.maxLocals = 1 := hml0
  have hown : s.vm.findClass "com/example/interfold/interfold/fidl/Token" = some m.cls := findClass_of_methodNamed Bd.named
  have hnm := (name_of_methodNamed Bd.named Bd.method).1
  have X0 : Stand p l e ({ frames := 0, cells := 0, slots := 0, locals := 0 } : Room) s m #[(.ref a)] below meth c s₁ [] 0 0 := Stand.of_body Bd
  have e0 : s₁.heap = h0 := by rw [← hh, Bd.state]; rfl
  have N0 := Fr.nil n0
  have K0 : Keep h0 h0 [] := Keep.refl _ _
  have r0 : GoTo p.tables e below s₁ (own_F_own_endd m a) s₁ (mkF m 0 #[.val (.ref a)] []) := fun tt_ kk_ => castTop (own_ef_own_endd m a) kk_
  obtain ⟨T1, X1, e1, st1⟩ := getF X0 hx hZ hown (host := "") (Or.inl (hw _ (List.mem_of_getElem? (i := 25) rfl))) Via.refl e0 hp0 (g := (mkF m 1 #[.val (.ref a)] [(.ref a)])) rfl rfl (hb hby own_d_prog_109_method_5_code_1)
  obtain ⟨fs, hr, hrun, hended, hW, hsame⟩ := X1.leave (v := some (.int i)) (fun h => by rw [Bd.returns] at h; cases h)
  refine ⟨_, _, r0 _ ?_, hrun, hended, _, _, rfl, ?_, ⟨_, rfl⟩, hW, hsame.mono (by decide) (by decide)⟩
  · show Steps p.tables e below (s₁.setTop (mkF m 0 #[.val (.ref a)] [])) _
    refine XS.aloadN X0.here hx rfl (hb hby own_d_prog_109_method_5_code_0) rfl rfl ?_
    show Steps p.tables e below (s₁.setTop (mkF m 1 #[.val (.ref a)] [(.ref a)])) _
    refine st1 _ ?_
    show Steps p.tables e below (T1.setTop (mkF m 4 #[.val (.ref a)] [(.int i)])) _
    exact retI X1 hx Bd.returns (hb hby own_d_prog_109_method_5_code_4) hr
  · show Q_own_endd Z a i h0 n0 _ T1.heap _
    rw [e1]
    exact ⟨rfl, N0, rfl⟩
theorem own_pn_own_value : plainName "com/example/interfold/interfold/fidl/Token" = true := by first | (simp [plainName, overriddenIn]; done) | decide +kernel
theorem own_ef_own_value (m : MethodId) (a : Addr) : entryFrame m #[(.ref a)] 1 = mkF m 0 #[.val (.ref a)] [] := by first | (simp [entryFrame, mkF, argsToLocals, own_cI, own_cJ, own_cR, own_cN]; done) | rfl
abbrev own_F_own_value (m : MethodId) (a : Addr) : JFrame := entryFrame m #[(.ref a)] 1
def Q_own_value (Z : State) (a : Addr) (sv : Value) (h0 : Heap) (n0 : Nat) (v : Option Value) (h : Heap) (L : List Loc) : Prop := v = some sv ∧ Fr n0 L ∧ h = h0
set_option maxRecDepth 65536 in
set_option maxHeartbeats 40000000 in
theorem own_value (l : Launch) (Z : State) (a0 : Array Value) (hw : ∀ d ∈ tables_1, d.before a0 Z = true) (ws : List Jvm.Cond) (a : Addr) (sv : Value) (h0 : Heap) (n0 : Nat) (O0 : Old Z n0 h0) (hsv : sv.isRef = true) (hp1 : Fld Z h0 a "com/example/interfold/interfold/fidl/Token" "value" "Ljava/lang/String;" sv) :
    MetFree l (⟨"com/example/interfold/interfold/fidl/Token", "value", "()Ljava/lang/String;"⟩ : MethodName) (head1 (Jvm.Cond.code (⟨"com/example/interfold/interfold/fidl/Token", "value", "()Ljava/lang/String;"⟩ : MethodName) prog_109_method_6_code 1 (some (.object "java/lang/String")) :: ws) ({ frames := 0, cells := 0, slots := 0, locals := 0 } : Room)) (fun aa_ U_ => aa_ = #[(.ref a)] ∧ Z.Warmed39 U_.vm ∧ U_.heap = h0) (fun _ _ _ _ _ => True) (fun _ U_ o_ V_ => ∃ v_ L_, o_ = .returned v_ ∧ Q_own_value Z a sv h0 n0 v_ V_.heap L_ ∧ FrameEnd U_ o_ V_ L_ ({ frames := 0, cells := 0, slots := 0, locals := 0 } : Room).cells ({ frames := 0, cells := 0, slots := 0, locals := 0 } : Room).slots) := by
  refine MetFree.of_bodySF (plainFor_of_name own_pn_own_value) hisR ?_
  intro p e s m args below meth c s₁ Bd hml0 hP hK
  obtain ⟨rfl, hZ, hh⟩ := hP
  have hx := Bd.exec
  have hby := Bd.bytes
  have hml : c.maxLocals = 1 := hml0
  have hown : s.vm.findClass "com/example/interfold/interfold/fidl/Token" = some m.cls := findClass_of_methodNamed Bd.named
  have hnm := (name_of_methodNamed Bd.named Bd.method).1
  have X0 : Stand p l e ({ frames := 0, cells := 0, slots := 0, locals := 0 } : Room) s m #[(.ref a)] below meth c s₁ [] 0 0 := Stand.of_body Bd
  have e0 : s₁.heap = h0 := by rw [← hh, Bd.state]; rfl
  have N0 := Fr.nil n0
  have K0 : Keep h0 h0 [] := Keep.refl _ _
  have r0 : GoTo p.tables e below s₁ (own_F_own_value m a) s₁ (mkF m 0 #[.val (.ref a)] []) := fun tt_ kk_ => castTop (own_ef_own_value m a) kk_
  obtain ⟨T1, X1, e1, st1⟩ := getF X0 hx hZ hown (host := "") (Or.inl (hw _ (List.mem_of_getElem? (i := 27) rfl))) Via.refl e0 hp1 (g := (mkF m 1 #[.val (.ref a)] [(.ref a)])) rfl rfl (hb hby own_d_prog_109_method_6_code_1)
  obtain ⟨fs, hr, hrun, hended, hW, hsame⟩ := X1.leave (v := some sv) (fun h => by rw [Bd.returns] at h; cases h)
  refine ⟨_, _, r0 _ ?_, hrun, hended, _, _, rfl, ?_, ⟨_, rfl⟩, hW, hsame.mono (by decide) (by decide)⟩
  · show Steps p.tables e below (s₁.setTop (mkF m 0 #[.val (.ref a)] [])) _
    refine XS.aloadN X0.here hx rfl (hb hby own_d_prog_109_method_6_code_0) rfl rfl ?_
    show Steps p.tables e below (s₁.setTop (mkF m 1 #[.val (.ref a)] [(.ref a)])) _
    refine st1 _ ?_
    show Steps p.tables e below (T1.setTop (mkF m 4 #[.val (.ref a)] [sv])) _
    exact retOut X1 hx (t := (.object "java/lang/String")) Bd.returns rfl (Or.inr (Or.inr (Or.inr (Or.inr ⟨rfl, rfl, hsv⟩)))) (hb hby own_d_prog_109_method_6_code_4) hr
  · show Q_own_value Z a sv h0 n0 _ T1.heap _
    rw [e1]
    exact ⟨rfl, N0, rfl⟩
theorem own_pn_own_law : plainName "com/example/interfold/interfold/fidl/TokenSetPinLaw" = true := by first | (simp [plainName, overriddenIn]; done) | decide +kernel
theorem own_ef_own_law (m : MethodId) (j0 : Int32) (j1 : Int32) (j2 : Int32) (j3 : Int32) (j4 : Int32) (j5 : Int32) : entryFrame m #[(.int j0), (.int j1), (.int j2), (.int j3), (.int j4), (.int j5)] maxLocals = mkF m 0 #[.val (.int j0), .val (.int j1), .val (.int j2), .val (.int j3), .val (.int j4), .val (.int j5), .unset, .unset, .unset, .unset, .unset, .unset, .unset, .unset, .unset, .unset] [] := by first | (simp [entryFrame, mkF, argsToLocals, own_cI, own_cJ, own_cR, own_cN, maxLocals]; done) | rfl
abbrev own_F_own_law (m : MethodId) (j0 : Int32) (j1 : Int32) (j2 : Int32) (j3 : Int32) (j4 : Int32) (j5 : Int32) : JFrame := entryFrame m #[(.int j0), (.int j1), (.int j2), (.int j3), (.int j4), (.int j5)] maxLocals
def Q_own_law (Z : State) (j0 : Int32) (j1 : Int32) (j2 : Int32) (j3 : Int32) (j4 : Int32) (j5 : Int32) (u0 : Addr) (u1 : Addr) (u2 : Addr) (u3 : Addr) (u4 : Addr) (u5 : Addr) (u6 : Addr) (u7 : Addr) (u8 : Addr) (u9 : Addr) (u10 : Addr) (u11 : Addr) (u12 : Addr) (u13 : Addr) (u14 : Addr) (u15 : Addr) (u16 : Addr) (u17 : Addr) (u18 : Addr) (u19 : Addr) (G1 : Int32) (h0 : Heap) (n0 : Nat) (v : Option Value) (h : Heap) (L : List Loc) : Prop := v = some (.int (1 : Int32)) ∧ Fr n0 L
set_option maxRecDepth 65536 in
set_option maxHeartbeats 40000000 in
theorem own_law (l : Launch) (Z : State) (a0 : Array Value) (hw : ∀ d ∈ tables_1, d.before a0 Z = true) (ws : List Jvm.Cond) (j0 : Int32) (j1 : Int32) (j2 : Int32) (j3 : Int32) (j4 : Int32) (j5 : Int32) (u0 : Addr) (u1 : Addr) (u2 : Addr) (u3 : Addr) (u4 : Addr) (u5 : Addr) (u6 : Addr) (u7 : Addr) (u8 : Addr) (u9 : Addr) (u10 : Addr) (u11 : Addr) (u12 : Addr) (u13 : Addr) (u14 : Addr) (u15 : Addr) (u16 : Addr) (u17 : Addr) (u18 : Addr) (u19 : Addr) (G1 : Int32) (h0 : Heap) (n0 : Nat) (O0 : Old Z n0 h0) (hp0 : Sta Z Z.heap "com/example/interfold/interfold/fidl/Token$Kind" "IDENTIFIER" "Lcom/example/interfold/interfold/fidl/Token$Kind;" (.ref u0)) (hp1 : Sta Z Z.heap "com/example/interfold/interfold/fidl/Token$Kind" "INTEGER" "Lcom/example/interfold/interfold/fidl/Token$Kind;" (.ref u1)) (hp2 : Sta Z Z.heap "com/example/interfold/interfold/fidl/Token$Kind" "FLOAT" "Lcom/example/interfold/interfold/fidl/Token$Kind;" (.ref u2)) (hp3 : Sta Z Z.heap "com/example/interfold/interfold/fidl/Token$Kind" "STRING" "Lcom/example/interfold/interfold/fidl/Token$Kind;" (.ref u3)) (hp4 : Sta Z Z.heap "com/example/interfold/interfold/fidl/Token$Kind" "DOC_COMMENT" "Lcom/example/interfold/interfold/fidl/Token$Kind;" (.ref u4)) (hp5 : Sta Z Z.heap "com/example/interfold/interfold/fidl/Token$Kind" "LEFT_PAREN" "Lcom/example/interfold/interfold/fidl/Token$Kind;" (.ref u5)) (hp6 : Sta Z Z.heap "com/example/interfold/interfold/fidl/Token$Kind" "RIGHT_PAREN" "Lcom/example/interfold/interfold/fidl/Token$Kind;" (.ref u6)) (hp7 : Sta Z Z.heap "com/example/interfold/interfold/fidl/Token$Kind" "LEFT_BRACE" "Lcom/example/interfold/interfold/fidl/Token$Kind;" (.ref u7)) (hp8 : Sta Z Z.heap "com/example/interfold/interfold/fidl/Token$Kind" "RIGHT_BRACE" "Lcom/example/interfold/interfold/fidl/Token$Kind;" (.ref u8)) (hp9 : Sta Z Z.heap "com/example/interfold/interfold/fidl/Token$Kind" "LEFT_ANGLE" "Lcom/example/interfold/interfold/fidl/Token$Kind;" (.ref u9)) (hp10 : Sta Z Z.heap "com/example/interfold/interfold/fidl/Token$Kind" "RIGHT_ANGLE" "Lcom/example/interfold/interfold/fidl/Token$Kind;" (.ref u10)) (hp11 : Sta Z Z.heap "com/example/interfold/interfold/fidl/Token$Kind" "COMMA" "Lcom/example/interfold/interfold/fidl/Token$Kind;" (.ref u11)) (hp12 : Sta Z Z.heap "com/example/interfold/interfold/fidl/Token$Kind" "SEMICOLON" "Lcom/example/interfold/interfold/fidl/Token$Kind;" (.ref u12)) (hp13 : Sta Z Z.heap "com/example/interfold/interfold/fidl/Token$Kind" "COLON" "Lcom/example/interfold/interfold/fidl/Token$Kind;" (.ref u13)) (hp14 : Sta Z Z.heap "com/example/interfold/interfold/fidl/Token$Kind" "EQUALS" "Lcom/example/interfold/interfold/fidl/Token$Kind;" (.ref u14)) (hp15 : Sta Z Z.heap "com/example/interfold/interfold/fidl/Token$Kind" "DOT" "Lcom/example/interfold/interfold/fidl/Token$Kind;" (.ref u15)) (hp16 : Sta Z Z.heap "com/example/interfold/interfold/fidl/Token$Kind" "AT" "Lcom/example/interfold/interfold/fidl/Token$Kind;" (.ref u16)) (hp17 : Sta Z Z.heap "com/example/interfold/interfold/fidl/Token$Kind" "PIPE" "Lcom/example/interfold/interfold/fidl/Token$Kind;" (.ref u17)) (hp18 : Sta Z Z.heap "com/example/interfold/interfold/fidl/Token$Kind" "ARROW" "Lcom/example/interfold/interfold/fidl/Token$Kind;" (.ref u18)) (hp19 : Sta Z Z.heap "com/example/interfold/interfold/fidl/Token$Kind" "END" "Lcom/example/interfold/interfold/fidl/Token$Kind;" (.ref u19)) (hp20 : Sta Z Z.heap "java/lang/String" "COMPACT_STRINGS" "Z" (.int G1)) (hG1 : ¬ G1 = (0 : Int32)) :
    MetFree l x (head1 (Jvm.Cond.code x code maxLocals ret :: ws) room_1) (fun aa_ U_ => aa_ = #[(.int j0), (.int j1), (.int j2), (.int j3), (.int j4), (.int j5)] ∧ Z.Warmed39 U_.vm ∧ U_.heap = h0) (fun _ _ _ _ _ => True) (fun _ U_ o_ V_ => ∃ v_ L_, o_ = .returned v_ ∧ Q_own_law Z j0 j1 j2 j3 j4 j5 u0 u1 u2 u3 u4 u5 u6 u7 u8 u9 u10 u11 u12 u13 u14 u15 u16 u17 u18 u19 G1 h0 n0 v_ V_.heap L_ ∧ FrameEnd U_ o_ V_ L_ room_1.cells room_1.slots) := by
  refine MetFree.of_bodySF (plainFor_of_name own_pn_own_law) hisR ?_
  intro p e s m args below meth c s₁ Bd hml0 hP hK
  obtain ⟨rfl, hZ, hh⟩ := hP
  have hx := Bd.exec
  have hby := Bd.bytes
  have hml : c.maxLocals = 16 := hml0
  have hown : s.vm.findClass "com/example/interfold/interfold/fidl/TokenSetPinLaw" = some m.cls := findClass_of_methodNamed Bd.named
  have hnm := (name_of_methodNamed Bd.named Bd.method).1
  have X0 : Stand p l e room_1 s m #[(.int j0), (.int j1), (.int j2), (.int j3), (.int j4), (.int j5)] below meth c s₁ [] 0 0 := Stand.of_body Bd
  have e0 : s₁.heap = h0 := by rw [← hh, Bd.state]; rfl
  have N0 := Fr.nil n0
  have K0 : Keep h0 h0 [] := Keep.refl _ _
  have r0 : GoTo p.tables e below s₁ (own_F_own_law m j0 j1 j2 j3 j4 j5) s₁ (mkF m 0 #[.val (.int j0), .val (.int j1), .val (.int j2), .val (.int j3), .val (.int j4), .val (.int j5), .unset, .unset, .unset, .unset, .unset, .unset, .unset, .unset, .unset, .unset] []) := fun tt_ kk_ => castTop (own_ef_own_law m j0 j1 j2 j3 j4 j5) kk_
  obtain ⟨_, _, ⟨T1, L1, k1, n1⟩, -, X1, ⟨Lc1, hQ1, l1, y1, z1⟩, st1⟩ := Jvm.LawKit.callS X0 hx (y := (⟨"com/example/interfold/interfold/fidl/TokenSetPinLaw", "kindOf", "(I)Lcom/example/interfold/interfold/fidl/Token$Kind;"⟩ : MethodName)) hown (mvT hZ (hw _ (List.mem_of_getElem? (i := 0) rfl))) (mvT hZ (hw _ (List.mem_of_getElem? (i := 1) rfl))) (mvT hZ (hw _ (List.mem_of_getElem? (i := 2) rfl))) (mvT hZ (hw _ (List.mem_of_getElem? (i := 3) rfl))) (by decide) (backOf (W := 0) (own_pick l Z a0 hw [] (((j0 &&& (255 : Int32)) % (20 : Int32))) (u0) (u1) (u2) (u3) (u4) (u5) (u6) (u7) (u8) (u9) (u10) (u11) (u12) (u13) (u14) (u15) (u16) (u17) (u18) (u19) h0 n0 (O0.keep K0 all0) (hp0) (hp1) (hp2) (hp3) (hp4) (hp5) (hp6) (hp7) (hp8) (hp9) (hp10) (hp11) (hp12) (hp13) (hp14) (hp15) (hp16) (hp17) (hp18) (hp19)) hZ (hw _ (List.mem_of_getElem? (i := 3) rfl)) (hw _ (List.mem_of_getElem? (i := 2) rfl)) (by decide) (by decide)) (g := (mkF m 8 #[.val (.int j0), .val (.int j1), .val (.int j2), .val (.int j3), .val (.int j4), .val (.int j5), .unset, .unset, .unset, .unset, .unset, .unset, .unset, .unset, .unset, .unset] [(.int ((j0 &&& (255 : Int32)) % (20 : Int32)))])) rfl (by rw [hml]; rfl) (argsL := [(.int ((j0 &&& (255 : Int32)) % (20 : Int32)))]) (rest := []) (lenOf own_pd0 rfl) rfl (by show 2 * 0 + _ ≤ _; exact Nat.le_of_eq rfl) (hb hby at_8) (fun _ _ => ⟨rfl, e0, (by decide : 0 + 0 ≤ _), (by decide : 0 + 0 ≤ _)⟩)
  dsimp only [Pt.U, Pt.locs, Pt.cells, Pt.slots] at X1 l1 y1 z1 st1 hQ1
  subst l1 y1 z1
  obtain ⟨kd_1, rfl, Nq1, hh1⟩ := hQ1
  have N1 := Fr.app N0 Nq1
  obtain ⟨_, _, ⟨T2, L2, k2, n2⟩, -, X2, ⟨Lc2, hQ2, l2, y2, z2⟩, st2⟩ := Jvm.LawKit.callS X1 hx (y := (⟨"com/example/interfold/interfold/fidl/TokenSetPinLaw", "kindOf", "(I)Lcom/example/interfold/interfold/fidl/Token$Kind;"⟩ : MethodName)) hown (mvT hZ (hw _ (List.mem_of_getElem? (i := 0) rfl))) (mvT hZ (hw _ (List.mem_of_getElem? (i := 1) rfl))) (mvT hZ (hw _ (List.mem_of_getElem? (i := 2) rfl))) (mvT hZ (hw _ (List.mem_of_getElem? (i := 3) rfl))) (by decide) (backOf (W := 0) (own_pick l Z a0 hw [] (((((j0.toUInt32 >>> ((8 : Int32) &&& 31).toUInt32).toInt32) &&& (255 : Int32)) % (20 : Int32))) (u0) (u1) (u2) (u3) (u4) (u5) (u6) (u7) (u8) (u9) (u10) (u11) (u12) (u13) (u14) (u15) (u16) (u17) (u18) (u19) h0 n0 (O0.keep K0 all0) (hp0) (hp1) (hp2) (hp3) (hp4) (hp5) (hp6) (hp7) (hp8) (hp9) (hp10) (hp11) (hp12) (hp13) (hp14) (hp15) (hp16) (hp17) (hp18) (hp19)) hZ (hw _ (List.mem_of_getElem? (i := 3) rfl)) (hw _ (List.mem_of_getElem? (i := 2) rfl)) (by decide) (by decide)) (g := (mkF m 24 #[.val (.int j0), .val (.int j1), .val (.int j2), .val (.int j3), .val (.int j4), .val (.int j5), .val (.ref kd_1), .unset, .unset, .unset, .unset, .unset, .unset, .unset, .unset, .unset] [(.int ((((j0.toUInt32 >>> ((8 : Int32) &&& 31).toUInt32).toInt32) &&& (255 : Int32)) % (20 : Int32)))])) rfl (by rw [hml]; rfl) (argsL := [(.int ((((j0.toUInt32 >>> ((8 : Int32) &&& 31).toUInt32).toInt32) &&& (255 : Int32)) % (20 : Int32)))]) (rest := []) (lenOf own_pd0 rfl) rfl (by show 2 * 0 + _ ≤ _; exact Nat.le_of_eq rfl) (hb hby at_24) (fun _ _ => ⟨rfl, hh1, (by decide : 0 + 0 ≤ _), (by decide : 0 + 0 ≤ _)⟩)
  dsimp only [Pt.U, Pt.locs, Pt.cells, Pt.slots] at X2 l2 y2 z2 st2 hQ2
  subst l2 y2 z2
  obtain ⟨kd_2, rfl, Nq2, hh2⟩ := hQ2
  have N2 := Fr.app N1 Nq2
  have r3 : GoTo p.tables e below s₁ (own_F_own_law m j0 j1 j2 j3 j4 j5) T2 (mkF m 36 #[.val (.int j0), .val (.int j1), .val (.int j2), .val (.int j3), .val (.int j4), .val (.int j5), .val (.ref kd_1), .val (.ref kd_2), .unset, .unset, .unset, .unset, .unset, .unset, .unset, .unset] [(.int ((j5 &&& (255 : Int32)).toUInt32.toUInt16.toUInt32.toInt32))]) := fun tt_ kk_ => r0 tt_ (by
      show Steps p.tables e below (s₁.setTop (mkF m 0 #[.val (.int j0), .val (.int j1), .val (.int j2), .val (.int j3), .val (.int j4), .val (.int j5), .unset, .unset, .unset, .unset, .unset, .unset, .unset, .unset, .unset, .unset] [])) _
      refine XS.iloadN X0.here hx rfl (hb hby at_0) rfl ?_
      show Steps p.tables e below (s₁.setTop (mkF m 1 #[.val (.int j0), .val (.int j1), .val (.int j2), .val (.int j3), .val (.int j4), .val (.int j5), .unset, .unset, .unset, .unset, .unset, .unset, .unset, .unset, .unset, .unset] [(.int j0)])) _
      refine XS.sipush X0.here hx rfl (hb hby at_1) ?_
      show Steps p.tables e below (s₁.setTop (mkF m 4 #[.val (.int j0), .val (.int j1), .val (.int j2), .val (.int j3), .val (.int j4), .val (.int j5), .unset, .unset, .unset, .unset, .unset, .unset, .unset, .unset, .unset, .unset] [(.int (255 : Int32)), (.int j0)])) _
      refine XS.iand X0.here hx rfl (hb hby at_4) rfl ?_
      show Steps p.tables e below (s₁.setTop (mkF m 5 #[.val (.int j0), .val (.int j1), .val (.int j2), .val (.int j3), .val (.int j4), .val (.int j5), .unset, .unset, .unset, .unset, .unset, .unset, .unset, .unset, .unset, .unset] [(.int (j0 &&& (255 : Int32)))])) _
      refine XS.bipush X0.here hx rfl (hb hby at_5) ?_
      show Steps p.tables e below (s₁.setTop (mkF m 7 #[.val (.int j0), .val (.int j1), .val (.int j2), .val (.int j3), .val (.int j4), .val (.int j5), .unset, .unset, .unset, .unset, .unset, .unset, .unset, .unset, .unset, .unset] [(.int (20 : Int32)), (.int (j0 &&& (255 : Int32)))])) _
      refine iremM X0 hx rfl (hb hby at_7) rfl (by decide) ?_
      show Steps p.tables e below (s₁.setTop (mkF m 8 #[.val (.int j0), .val (.int j1), .val (.int j2), .val (.int j3), .val (.int j4), .val (.int j5), .unset, .unset, .unset, .unset, .unset, .unset, .unset, .unset, .unset, .unset] [(.int ((j0 &&& (255 : Int32)) % (20 : Int32)))])) _
      refine st1 _ ?_
      show Steps p.tables e below (T1.setTop (mkF m 11 #[.val (.int j0), .val (.int j1), .val (.int j2), .val (.int j3), .val (.int j4), .val (.int j5), .unset, .unset, .unset, .unset, .unset, .unset, .unset, .unset, .unset, .unset] [(.ref kd_1)])) _
      refine XS.astore X1.here hx rfl (hb hby at_11) rfl rfl (l' := #[.val (.int j0), .val (.int j1), .val (.int j2), .val (.int j3), .val (.int j4), .val (.int j5), .val (.ref kd_1), .unset, .unset, .unset, .unset, .unset, .unset, .unset, .unset, .unset]) rfl ?_
      show Steps p.tables e below (T1.setTop (mkF m 13 #[.val (.int j0), .val (.int j1), .val (.int j2), .val (.int j3), .val (.int j4), .val (.int j5), .val (.ref kd_1), .unset, .unset, .unset, .unset, .unset, .unset, .unset, .unset, .unset] [])) _
      refine XS.iloadN X1.here hx rfl (hb hby at_13) rfl ?_
      show Steps p.tables e below (T1.setTop (mkF m 14 #[.val (.int j0), .val (.int j1), .val (.int j2), .val (.int j3), .val (.int j4), .val (.int j5), .val (.ref kd_1), .unset, .unset, .unset, .unset, .unset, .unset, .unset, .unset, .unset] [(.int j0)])) _
      refine XS.bipush X1.here hx rfl (hb hby at_14) ?_
      show Steps p.tables e below (T1.setTop (mkF m 16 #[.val (.int j0), .val (.int j1), .val (.int j2), .val (.int j3), .val (.int j4), .val (.int j5), .val (.ref kd_1), .unset, .unset, .unset, .unset, .unset, .unset, .unset, .unset, .unset] [(.int (8 : Int32)), (.int j0)])) _
      refine XS.iushr X1.here hx rfl (hb hby at_16) rfl ?_
      show Steps p.tables e below (T1.setTop (mkF m 17 #[.val (.int j0), .val (.int j1), .val (.int j2), .val (.int j3), .val (.int j4), .val (.int j5), .val (.ref kd_1), .unset, .unset, .unset, .unset, .unset, .unset, .unset, .unset, .unset] [(.int ((j0.toUInt32 >>> ((8 : Int32) &&& 31).toUInt32).toInt32))])) _
      refine XS.sipush X1.here hx rfl (hb hby at_17) ?_
      show Steps p.tables e below (T1.setTop (mkF m 20 #[.val (.int j0), .val (.int j1), .val (.int j2), .val (.int j3), .val (.int j4), .val (.int j5), .val (.ref kd_1), .unset, .unset, .unset, .unset, .unset, .unset, .unset, .unset, .unset] [(.int (255 : Int32)), (.int ((j0.toUInt32 >>> ((8 : Int32) &&& 31).toUInt32).toInt32))])) _
      refine XS.iand X1.here hx rfl (hb hby at_20) rfl ?_
      show Steps p.tables e below (T1.setTop (mkF m 21 #[.val (.int j0), .val (.int j1), .val (.int j2), .val (.int j3), .val (.int j4), .val (.int j5), .val (.ref kd_1), .unset, .unset, .unset, .unset, .unset, .unset, .unset, .unset, .unset] [(.int (((j0.toUInt32 >>> ((8 : Int32) &&& 31).toUInt32).toInt32) &&& (255 : Int32)))])) _
      refine XS.bipush X1.here hx rfl (hb hby at_21) ?_
      show Steps p.tables e below (T1.setTop (mkF m 23 #[.val (.int j0), .val (.int j1), .val (.int j2), .val (.int j3), .val (.int j4), .val (.int j5), .val (.ref kd_1), .unset, .unset, .unset, .unset, .unset, .unset, .unset, .unset, .unset] [(.int (20 : Int32)), (.int (((j0.toUInt32 >>> ((8 : Int32) &&& 31).toUInt32).toInt32) &&& (255 : Int32)))])) _
      refine iremM X1 hx rfl (hb hby at_23) rfl (by decide) ?_
      show Steps p.tables e below (T1.setTop (mkF m 24 #[.val (.int j0), .val (.int j1), .val (.int j2), .val (.int j3), .val (.int j4), .val (.int j5), .val (.ref kd_1), .unset, .unset, .unset, .unset, .unset, .unset, .unset, .unset, .unset] [(.int ((((j0.toUInt32 >>> ((8 : Int32) &&& 31).toUInt32).toInt32) &&& (255 : Int32)) % (20 : Int32)))])) _
      refine st2 _ ?_
      show Steps p.tables e below (T2.setTop (mkF m 27 #[.val (.int j0), .val (.int j1), .val (.int j2), .val (.int j3), .val (.int j4), .val (.int j5), .val (.ref kd_1), .unset, .unset, .unset, .unset, .unset, .unset, .unset, .unset, .unset] [(.ref kd_2)])) _
      refine XS.astore X2.here hx rfl (hb hby at_27) rfl rfl (l' := #[.val (.int j0), .val (.int j1), .val (.int j2), .val (.int j3), .val (.int j4), .val (.int j5), .val (.ref kd_1), .val (.ref kd_2), .unset, .unset, .unset, .unset, .unset, .unset, .unset, .unset]) rfl ?_
      show Steps p.tables e below (T2.setTop (mkF m 29 #[.val (.int j0), .val (.int j1), .val (.int j2), .val (.int j3), .val (.int j4), .val (.int j5), .val (.ref kd_1), .val (.ref kd_2), .unset, .unset, .unset, .unset, .unset, .unset, .unset, .unset] [])) _
      refine XS.iload X2.here hx rfl (hb hby at_29) rfl ?_
      show Steps p.tables e below (T2.setTop (mkF m 31 #[.val (.int j0), .val (.int j1), .val (.int j2), .val (.int j3), .val (.int j4), .val (.int j5), .val (.ref kd_1), .val (.ref kd_2), .unset, .unset, .unset, .unset, .unset, .unset, .unset, .unset] [(.int j5)])) _
      refine XS.sipush X2.here hx rfl (hb hby at_31) ?_
      show Steps p.tables e below (T2.setTop (mkF m 34 #[.val (.int j0), .val (.int j1), .val (.int j2), .val (.int j3), .val (.int j4), .val (.int j5), .val (.ref kd_1), .val (.ref kd_2), .unset, .unset, .unset, .unset, .unset, .unset, .unset, .unset] [(.int (255 : Int32)), (.int j5)])) _
      refine XS.iand X2.here hx rfl (hb hby at_34) rfl ?_
      show Steps p.tables e below (T2.setTop (mkF m 35 #[.val (.int j0), .val (.int j1), .val (.int j2), .val (.int j3), .val (.int j4), .val (.int j5), .val (.ref kd_1), .val (.ref kd_2), .unset, .unset, .unset, .unset, .unset, .unset, .unset, .unset] [(.int (j5 &&& (255 : Int32)))])) _
      refine XS.i2c X2.here hx rfl (hb hby at_35) rfl ?_
      show Steps p.tables e below (T2.setTop (mkF m 36 #[.val (.int j0), .val (.int j1), .val (.int j2), .val (.int j3), .val (.int j4), .val (.int j5), .val (.ref kd_1), .val (.ref kd_2), .unset, .unset, .unset, .unset, .unset, .unset, .unset, .unset] [(.int ((j5 &&& (255 : Int32)).toUInt32.toUInt16.toUInt32.toInt32))])) _
      exact kk_)
  obtain ⟨c0, h_c0⟩ : ∃ z : Int32, z = ((j5 &&& (255 : Int32)).toUInt32.toUInt16.toUInt32.toInt32) := ⟨_, rfl⟩
  have r4 : GoTo p.tables e below s₁ (own_F_own_law m j0 j1 j2 j3 j4 j5) T2 (mkF m 36 #[.val (.int j0), .val (.int j1), .val (.int j2), .val (.int j3), .val (.int j4), .val (.int j5), .val (.ref kd_1), .val (.ref kd_2), .unset, .unset, .unset, .unset, .unset, .unset, .unset, .unset] [(.int c0)]) := by rw [h_c0]; exact r3
  have hr_c0 := own_chr j5 h_c0
  have r5 : GoTo p.tables e below s₁ (own_F_own_law m j0 j1 j2 j3 j4 j5) T2 (mkF m 48 #[.val (.int j0), .val (.int j1), .val (.int j2), .val (.int j3), .val (.int j4), .val (.int j5), .val (.ref kd_1), .val (.ref kd_2), .val (.int c0), .unset, .unset, .unset, .unset, .unset, .unset, .unset] [(.int ((((j5.toUInt32 >>> ((8 : Int32) &&& 31).toUInt32).toInt32) &&& (255 : Int32)).toUInt32.toUInt16.toUInt32.toInt32))]) := fun tt_ kk_ => r4 tt_ (by
      show Steps p.tables e below (T2.setTop (mkF m 36 #[.val (.int j0), .val (.int j1), .val (.int j2), .val (.int j3), .val (.int j4), .val (.int j5), .val (.ref kd_1), .val (.ref kd_2), .unset, .unset, .unset, .unset, .unset, .unset, .unset, .unset] [(.int c0)])) _
      refine XS.istore X2.here hx rfl (hb hby at_36) rfl (l' := #[.val (.int j0), .val (.int j1), .val (.int j2), .val (.int j3), .val (.int j4), .val (.int j5), .val (.ref kd_1), .val (.ref kd_2), .val (.int c0), .unset, .unset, .unset, .unset, .unset, .unset, .unset]) rfl ?_
      show Steps p.tables e below (T2.setTop (mkF m 38 #[.val (.int j0), .val (.int j1), .val (.int j2), .val (.int j3), .val (.int j4), .val (.int j5), .val (.ref kd_1), .val (.ref kd_2), .val (.int c0), .unset, .unset, .unset, .unset, .unset, .unset, .unset] [])) _
      refine XS.iload X2.here hx rfl (hb hby at_38) rfl ?_
      show Steps p.tables e below (T2.setTop (mkF m 40 #[.val (.int j0), .val (.int j1), .val (.int j2), .val (.int j3), .val (.int j4), .val (.int j5), .val (.ref kd_1), .val (.ref kd_2), .val (.int c0), .unset, .unset, .unset, .unset, .unset, .unset, .unset] [(.int j5)])) _
      refine XS.bipush X2.here hx rfl (hb hby at_40) ?_
      show Steps p.tables e below (T2.setTop (mkF m 42 #[.val (.int j0), .val (.int j1), .val (.int j2), .val (.int j3), .val (.int j4), .val (.int j5), .val (.ref kd_1), .val (.ref kd_2), .val (.int c0), .unset, .unset, .unset, .unset, .unset, .unset, .unset] [(.int (8 : Int32)), (.int j5)])) _
      refine XS.iushr X2.here hx rfl (hb hby at_42) rfl ?_
      show Steps p.tables e below (T2.setTop (mkF m 43 #[.val (.int j0), .val (.int j1), .val (.int j2), .val (.int j3), .val (.int j4), .val (.int j5), .val (.ref kd_1), .val (.ref kd_2), .val (.int c0), .unset, .unset, .unset, .unset, .unset, .unset, .unset] [(.int ((j5.toUInt32 >>> ((8 : Int32) &&& 31).toUInt32).toInt32))])) _
      refine XS.sipush X2.here hx rfl (hb hby at_43) ?_
      show Steps p.tables e below (T2.setTop (mkF m 46 #[.val (.int j0), .val (.int j1), .val (.int j2), .val (.int j3), .val (.int j4), .val (.int j5), .val (.ref kd_1), .val (.ref kd_2), .val (.int c0), .unset, .unset, .unset, .unset, .unset, .unset, .unset] [(.int (255 : Int32)), (.int ((j5.toUInt32 >>> ((8 : Int32) &&& 31).toUInt32).toInt32))])) _
      refine XS.iand X2.here hx rfl (hb hby at_46) rfl ?_
      show Steps p.tables e below (T2.setTop (mkF m 47 #[.val (.int j0), .val (.int j1), .val (.int j2), .val (.int j3), .val (.int j4), .val (.int j5), .val (.ref kd_1), .val (.ref kd_2), .val (.int c0), .unset, .unset, .unset, .unset, .unset, .unset, .unset] [(.int (((j5.toUInt32 >>> ((8 : Int32) &&& 31).toUInt32).toInt32) &&& (255 : Int32)))])) _
      refine XS.i2c X2.here hx rfl (hb hby at_47) rfl ?_
      show Steps p.tables e below (T2.setTop (mkF m 48 #[.val (.int j0), .val (.int j1), .val (.int j2), .val (.int j3), .val (.int j4), .val (.int j5), .val (.ref kd_1), .val (.ref kd_2), .val (.int c0), .unset, .unset, .unset, .unset, .unset, .unset, .unset] [(.int ((((j5.toUInt32 >>> ((8 : Int32) &&& 31).toUInt32).toInt32) &&& (255 : Int32)).toUInt32.toUInt16.toUInt32.toInt32))])) _
      exact kk_)
  obtain ⟨c1, h_c1⟩ : ∃ z : Int32, z = ((((j5.toUInt32 >>> ((8 : Int32) &&& 31).toUInt32).toInt32) &&& (255 : Int32)).toUInt32.toUInt16.toUInt32.toInt32) := ⟨_, rfl⟩
  have r6 : GoTo p.tables e below s₁ (own_F_own_law m j0 j1 j2 j3 j4 j5) T2 (mkF m 48 #[.val (.int j0), .val (.int j1), .val (.int j2), .val (.int j3), .val (.int j4), .val (.int j5), .val (.ref kd_1), .val (.ref kd_2), .val (.int c0), .unset, .unset, .unset, .unset, .unset, .unset, .unset] [(.int c1)]) := by rw [h_c1]; exact r5
  have hr_c1 := own_chr ((j5.toUInt32 >>> ((8 : Int32) &&& 31).toUInt32).toInt32) h_c1
  have r7 : GoTo p.tables e below s₁ (own_F_own_law m j0 j1 j2 j3 j4 j5) T2 (mkF m 60 #[.val (.int j0), .val (.int j1), .val (.int j2), .val (.int j3), .val (.int j4), .val (.int j5), .val (.ref kd_1), .val (.ref kd_2), .val (.int c0), .val (.int c1), .unset, .unset, .unset, .unset, .unset, .unset] [(.int ((((j5.toUInt32 >>> ((16 : Int32) &&& 31).toUInt32).toInt32) &&& (255 : Int32)).toUInt32.toUInt16.toUInt32.toInt32))]) := fun tt_ kk_ => r6 tt_ (by
      show Steps p.tables e below (T2.setTop (mkF m 48 #[.val (.int j0), .val (.int j1), .val (.int j2), .val (.int j3), .val (.int j4), .val (.int j5), .val (.ref kd_1), .val (.ref kd_2), .val (.int c0), .unset, .unset, .unset, .unset, .unset, .unset, .unset] [(.int c1)])) _
      refine XS.istore X2.here hx rfl (hb hby at_48) rfl (l' := #[.val (.int j0), .val (.int j1), .val (.int j2), .val (.int j3), .val (.int j4), .val (.int j5), .val (.ref kd_1), .val (.ref kd_2), .val (.int c0), .val (.int c1), .unset, .unset, .unset, .unset, .unset, .unset]) rfl ?_
      show Steps p.tables e below (T2.setTop (mkF m 50 #[.val (.int j0), .val (.int j1), .val (.int j2), .val (.int j3), .val (.int j4), .val (.int j5), .val (.ref kd_1), .val (.ref kd_2), .val (.int c0), .val (.int c1), .unset, .unset, .unset, .unset, .unset, .unset] [])) _
      refine XS.iload X2.here hx rfl (hb hby at_50) rfl ?_
      show Steps p.tables e below (T2.setTop (mkF m 52 #[.val (.int j0), .val (.int j1), .val (.int j2), .val (.int j3), .val (.int j4), .val (.int j5), .val (.ref kd_1), .val (.ref kd_2), .val (.int c0), .val (.int c1), .unset, .unset, .unset, .unset, .unset, .unset] [(.int j5)])) _
      refine XS.bipush X2.here hx rfl (hb hby at_52) ?_
      show Steps p.tables e below (T2.setTop (mkF m 54 #[.val (.int j0), .val (.int j1), .val (.int j2), .val (.int j3), .val (.int j4), .val (.int j5), .val (.ref kd_1), .val (.ref kd_2), .val (.int c0), .val (.int c1), .unset, .unset, .unset, .unset, .unset, .unset] [(.int (16 : Int32)), (.int j5)])) _
      refine XS.iushr X2.here hx rfl (hb hby at_54) rfl ?_
      show Steps p.tables e below (T2.setTop (mkF m 55 #[.val (.int j0), .val (.int j1), .val (.int j2), .val (.int j3), .val (.int j4), .val (.int j5), .val (.ref kd_1), .val (.ref kd_2), .val (.int c0), .val (.int c1), .unset, .unset, .unset, .unset, .unset, .unset] [(.int ((j5.toUInt32 >>> ((16 : Int32) &&& 31).toUInt32).toInt32))])) _
      refine XS.sipush X2.here hx rfl (hb hby at_55) ?_
      show Steps p.tables e below (T2.setTop (mkF m 58 #[.val (.int j0), .val (.int j1), .val (.int j2), .val (.int j3), .val (.int j4), .val (.int j5), .val (.ref kd_1), .val (.ref kd_2), .val (.int c0), .val (.int c1), .unset, .unset, .unset, .unset, .unset, .unset] [(.int (255 : Int32)), (.int ((j5.toUInt32 >>> ((16 : Int32) &&& 31).toUInt32).toInt32))])) _
      refine XS.iand X2.here hx rfl (hb hby at_58) rfl ?_
      show Steps p.tables e below (T2.setTop (mkF m 59 #[.val (.int j0), .val (.int j1), .val (.int j2), .val (.int j3), .val (.int j4), .val (.int j5), .val (.ref kd_1), .val (.ref kd_2), .val (.int c0), .val (.int c1), .unset, .unset, .unset, .unset, .unset, .unset] [(.int (((j5.toUInt32 >>> ((16 : Int32) &&& 31).toUInt32).toInt32) &&& (255 : Int32)))])) _
      refine XS.i2c X2.here hx rfl (hb hby at_59) rfl ?_
      show Steps p.tables e below (T2.setTop (mkF m 60 #[.val (.int j0), .val (.int j1), .val (.int j2), .val (.int j3), .val (.int j4), .val (.int j5), .val (.ref kd_1), .val (.ref kd_2), .val (.int c0), .val (.int c1), .unset, .unset, .unset, .unset, .unset, .unset] [(.int ((((j5.toUInt32 >>> ((16 : Int32) &&& 31).toUInt32).toInt32) &&& (255 : Int32)).toUInt32.toUInt16.toUInt32.toInt32))])) _
      exact kk_)
  obtain ⟨c2, h_c2⟩ : ∃ z : Int32, z = ((((j5.toUInt32 >>> ((16 : Int32) &&& 31).toUInt32).toInt32) &&& (255 : Int32)).toUInt32.toUInt16.toUInt32.toInt32) := ⟨_, rfl⟩
  have r8 : GoTo p.tables e below s₁ (own_F_own_law m j0 j1 j2 j3 j4 j5) T2 (mkF m 60 #[.val (.int j0), .val (.int j1), .val (.int j2), .val (.int j3), .val (.int j4), .val (.int j5), .val (.ref kd_1), .val (.ref kd_2), .val (.int c0), .val (.int c1), .unset, .unset, .unset, .unset, .unset, .unset] [(.int c2)]) := by rw [h_c2]; exact r7
  have hr_c2 := own_chr ((j5.toUInt32 >>> ((16 : Int32) &&& 31).toUInt32).toInt32) h_c2
  have r9 : GoTo p.tables e below s₁ (own_F_own_law m j0 j1 j2 j3 j4 j5) T2 (mkF m 68 #[.val (.int j0), .val (.int j1), .val (.int j2), .val (.int j3), .val (.int j4), .val (.int j5), .val (.ref kd_1), .val (.ref kd_2), .val (.int c0), .val (.int c1), .val (.int c2), .unset, .unset, .unset, .unset, .unset] [(.int (((j0.toUInt32 >>> ((16 : Int32) &&& 31).toUInt32).toInt32) &&& (1 : Int32)))]) := fun tt_ kk_ => r8 tt_ (by
      show Steps p.tables e below (T2.setTop (mkF m 60 #[.val (.int j0), .val (.int j1), .val (.int j2), .val (.int j3), .val (.int j4), .val (.int j5), .val (.ref kd_1), .val (.ref kd_2), .val (.int c0), .val (.int c1), .unset, .unset, .unset, .unset, .unset, .unset] [(.int c2)])) _
      refine XS.istore X2.here hx rfl (hb hby at_60) rfl (l' := #[.val (.int j0), .val (.int j1), .val (.int j2), .val (.int j3), .val (.int j4), .val (.int j5), .val (.ref kd_1), .val (.ref kd_2), .val (.int c0), .val (.int c1), .val (.int c2), .unset, .unset, .unset, .unset, .unset]) rfl ?_
      show Steps p.tables e below (T2.setTop (mkF m 62 #[.val (.int j0), .val (.int j1), .val (.int j2), .val (.int j3), .val (.int j4), .val (.int j5), .val (.ref kd_1), .val (.ref kd_2), .val (.int c0), .val (.int c1), .val (.int c2), .unset, .unset, .unset, .unset, .unset] [])) _
      refine XS.iloadN X2.here hx rfl (hb hby at_62) rfl ?_
      show Steps p.tables e below (T2.setTop (mkF m 63 #[.val (.int j0), .val (.int j1), .val (.int j2), .val (.int j3), .val (.int j4), .val (.int j5), .val (.ref kd_1), .val (.ref kd_2), .val (.int c0), .val (.int c1), .val (.int c2), .unset, .unset, .unset, .unset, .unset] [(.int j0)])) _
      refine XS.bipush X2.here hx rfl (hb hby at_63) ?_
      show Steps p.tables e below (T2.setTop (mkF m 65 #[.val (.int j0), .val (.int j1), .val (.int j2), .val (.int j3), .val (.int j4), .val (.int j5), .val (.ref kd_1), .val (.ref kd_2), .val (.int c0), .val (.int c1), .val (.int c2), .unset, .unset, .unset, .unset, .unset] [(.int (16 : Int32)), (.int j0)])) _
      refine XS.iushr X2.here hx rfl (hb hby at_65) rfl ?_
      show Steps p.tables e below (T2.setTop (mkF m 66 #[.val (.int j0), .val (.int j1), .val (.int j2), .val (.int j3), .val (.int j4), .val (.int j5), .val (.ref kd_1), .val (.ref kd_2), .val (.int c0), .val (.int c1), .val (.int c2), .unset, .unset, .unset, .unset, .unset] [(.int ((j0.toUInt32 >>> ((16 : Int32) &&& 31).toUInt32).toInt32))])) _
      refine XS.iconst X2.here hx rfl (hb hby at_66) ?_
      show Steps p.tables e below (T2.setTop (mkF m 67 #[.val (.int j0), .val (.int j1), .val (.int j2), .val (.int j3), .val (.int j4), .val (.int j5), .val (.ref kd_1), .val (.ref kd_2), .val (.int c0), .val (.int c1), .val (.int c2), .unset, .unset, .unset, .unset, .unset] [(.int (1 : Int32)), (.int ((j0.toUInt32 >>> ((16 : Int32) &&& 31).toUInt32).toInt32))])) _
      refine XS.iand X2.here hx rfl (hb hby at_67) rfl ?_
      show Steps p.tables e below (T2.setTop (mkF m 68 #[.val (.int j0), .val (.int j1), .val (.int j2), .val (.int j3), .val (.int j4), .val (.int j5), .val (.ref kd_1), .val (.ref kd_2), .val (.int c0), .val (.int c1), .val (.int c2), .unset, .unset, .unset, .unset, .unset] [(.int (((j0.toUInt32 >>> ((16 : Int32) &&& 31).toUInt32).toInt32) &&& (1 : Int32)))])) _
      exact kk_)
  obtain ⟨T10, Lj10, h10, sv10, X10, N10, e10, Kj10, hs10, r10⟩ : ∃ (T' : State) (L' : List Loc) (h' : Heap) (sv10 : Value), Stand p l e room_1 s m #[(.int j0), (.int j1), (.int j2), (.int j3), (.int j4), (.int j5)] below meth c T' L' 3 6 ∧ Fr n0 L' ∧ T'.heap = h' ∧ Keep h0 h' [] ∧ sv10.isRef = true ∧ GoTo p.tables e below s₁ (own_F_own_law m j0 j1 j2 j3 j4 j5) T' (mkF m 90 #[.val (.int j0), .val (.int j1), .val (.int j2), .val (.int j3), .val (.int j4), .val (.int j5), .val (.ref kd_1), .val (.ref kd_2), .val (.int c0), .val (.int c1), .val (.int c2), .unset, .unset, .unset, .unset, .unset] [sv10]) := by
    have O11 : Old Z n0 h0 := (O0.keep K0 all0)
    have K12 : Keep h0 h0 [] := Keep.refl _ _
    by_cases hc13 : (((j0.toUInt32 >>> ((16 : Int32) &&& 31).toUInt32).toInt32) &&& (1 : Int32)) = (0 : Int32)
    · have r14 : GoTo p.tables e below s₁ (own_F_own_law m j0 j1 j2 j3 j4 j5) T2 (mkF m 90 #[.val (.int j0), .val (.int j1), .val (.int j2), .val (.int j3), .val (.int j4), .val (.int j5), .val (.ref kd_1), .val (.ref kd_2), .val (.int c0), .val (.int c1), .val (.int c2), .unset, .unset, .unset, .unset, .unset] [.null]) := fun tt_ kk_ => r9 tt_ (by
          show Steps p.tables e below (T2.setTop (mkF m 68 #[.val (.int j0), .val (.int j1), .val (.int j2), .val (.int j3), .val (.int j4), .val (.int j5), .val (.ref kd_1), .val (.ref kd_2), .val (.int c0), .val (.int c1), .val (.int c2), .unset, .unset, .unset, .unset, .unset] [(.int (((j0.toUInt32 >>> ((16 : Int32) &&& 31).toUInt32).toInt32) &&& (1 : Int32)))])) _
          refine XS.ifYes X2.here hx rfl (pc0 := 68) (pc' := 89) rfl (hb hby at_68) rfl ((if0 _ _).trans (teq hc13).1) (by decide) (by decide) ?_
          show Steps p.tables e below (T2.setTop (mkF m 89 #[.val (.int j0), .val (.int j1), .val (.int j2), .val (.int j3), .val (.int j4), .val (.int j5), .val (.ref kd_1), .val (.ref kd_2), .val (.int c0), .val (.int c1), .val (.int c2), .unset, .unset, .unset, .unset, .unset] [])) _
          refine XS.aconstNull X2.here hx rfl (hb hby at_89) ?_
          show Steps p.tables e below (T2.setTop (mkF m 90 #[.val (.int j0), .val (.int j1), .val (.int j2), .val (.int j3), .val (.int j4), .val (.int j5), .val (.ref kd_1), .val (.ref kd_2), .val (.int c0), .val (.int c1), .val (.int c2), .unset, .unset, .unset, .unset, .unset] [.null])) _
          exact kk_)
      exact ⟨T2, _, _, .null, own_mono X2 (by decide) (by decide), N2, hh2, K12, rfl, r14⟩
    · obtain ⟨T15, h15, X15, e15, E15, A15, D15, -, st15⟩ := newO X2 hx hZ hown (hw _ (List.mem_of_getElem? (i := 61) rfl)) (hw _ (List.mem_of_getElem? (i := 62) rfl)) (hw _ (List.mem_of_getElem? (i := 63) rfl)) hh2 (g := (mkF m 71 #[.val (.int j0), .val (.int j1), .val (.int j2), .val (.int j3), .val (.int j4), .val (.int j5), .val (.ref kd_1), .val (.ref kd_2), .val (.int c0), .val (.int c1), .val (.int c2), .unset, .unset, .unset, .unset, .unset] [])) rfl (hb hby at_71) (by decide) (by decide)
      obtain ⟨b15, gg15⟩ : ∃ z, z = h0.size := ⟨_, rfl⟩
      rw [← gg15] at A15 D15 st15
      have g16 : n0 ≤ b15 := Nat.le_trans (Nat.le_trans (own_le O11) K12.1) (Nat.le_of_eq gg15.symm)
      have b17 : h0.size ≤ b15 := Nat.le_trans K12.1 (Nat.le_of_eq gg15.symm)
      have K18 : Keep h0 h15 [] := K12.ext E15
      obtain ⟨T19, h19, k19, X19, e19, E19, A19, st19⟩ := newP X15 hx hZ (hw _ (List.mem_of_getElem? (i := 64) rfl)) e15 (g := (mkF m 76 #[.val (.int j0), .val (.int j1), .val (.int j2), .val (.int j3), .val (.int j4), .val (.int j5), .val (.ref kd_1), .val (.ref kd_2), .val (.int c0), .val (.int c1), .val (.int c2), .unset, .unset, .unset, .unset, .unset] [(.int (1 : Int32)), (.ref b15), (.ref b15)])) rfl (hb hby at_76) rfl (by decide) (cap := 1) (by decide) (by decide) (by decide) (by decide)
      obtain ⟨b19, gg19⟩ : ∃ z, z = h15.size := ⟨_, rfl⟩
      rw [← gg19] at A19 st19
      have ne20 : b15 ≠ b19 := Nat.ne_of_lt (Nat.lt_of_lt_of_le A15.lt (Nat.le_of_eq gg19.symm))
      have g21 : n0 ≤ b19 := Nat.le_trans (Nat.le_trans (own_le O11) K18.1) (Nat.le_of_eq gg19.symm)
      have b22 : h0.size ≤ b19 := Nat.le_trans K18.1 (Nat.le_of_eq gg19.symm)
      have K23 : Keep h0 h19 [] := K18.ext E19
      have V19 : Arv Z h19 b19 k19 .char (1 : Int32) [(.int (0 : Int32))] (.int (0 : Int32)) := (Arv.new A19 (by decide)).pad (pad_rep [] (.int (0 : Int32)) 1)
      obtain ⟨cl24, Ar24, q24, S24, NN24, H24, G24⟩ := id V19
      have hin24 : ¬ ((0 : Int32) < 0 ∨ cl24.slots.size ≤ ((0 : Int32)).toNatClampNeg) := inb_of S24 ⟨by decide, by decide⟩
      obtain ⟨T25, h25, X25, e25, W25, st25⟩ := stC X19 hx hZ e19 Ar24 (j := (0 : Int32)) hin24 (g := (mkF m 82 #[.val (.int j0), .val (.int j1), .val (.int j2), .val (.int j3), .val (.int j4), .val (.int j5), .val (.ref kd_1), .val (.ref kd_2), .val (.int c0), .val (.int c1), .val (.int c2), .unset, .unset, .unset, .unset, .unset] [(.int c0), (.int (0 : Int32)), (.ref b19), (.ref b19), (.ref b15), (.ref b15)])) rfl rfl (hb hby at_82)
      have K26 : Keep h0 h25 [] := K23.wr W25 (Or.inr b22)
      have V25 : Arv Z h25 b19 k19 .char (1 : Int32) [(.int (nar .char c0))] (.int (0 : Int32)) := Arv.set Ar24 q24 S24 NN24 H24 G24 (fits_nar_char _) W25 0 rfl (Nat.le_of_ble_eq_true rfl)
      have Vs25 : Arv Z h25 b19 k19 .char (1 : Int32) [(.int c0)] (.int (0 : Int32)) := by rw [show (nar .char c0) = c0 from hr_c0.2] at V25; exact V25
      have N25 := Fr.snoc X25 N2 g21
      have hws : ∀ d ∈ StrChars.Road.words, d.before a0 Z = true := fun d hd => hw d (own_in_words d hd)
      have f27 : Exa Z h25 b15 "java/lang/String" := ((A15.ext E19).wr W25)
      have f28 : Fld Z h25 b15 "java/lang/String" "value" "[B" .null := (((D15 (Or.inr (hw _ (List.mem_of_getElem? (i := 88) rfl))) (ty := (.array .byte)) (by decide)).ext E19).other W25 (Or.inl ne20))
      have f29 : Fld Z h25 b15 "java/lang/String" "coder" "B" (.int (0 : Int32)) := (((D15 (Or.inr (hw _ (List.mem_of_getElem? (i := 86) rfl))) (ty := .byte) (by decide)).ext E19).other W25 (Or.inl ne20))
      have hp30 : ∀ c ∈ ([c0] : List Int32), ¬ c < 0 ∧ ¬ (255 : Int32) < c := own_allC hr_c0.1 (own_all0)
      obtain ⟨_, _, ⟨T31, L31, k31, n31⟩, -, X31, ⟨Lc31, hQ31, l31, y31, z31⟩, st31⟩ := X25.specialBack hx (y := (⟨"java/lang/String", "<init>", "([C)V"⟩ : MethodName)) rfl hown (mvT hZ (hw _ (List.mem_of_getElem? (i := 65) rfl))) (mvT hZ (hw _ (List.mem_of_getElem? (i := 66) rfl))) (mvT hZ (hw _ (List.mem_of_getElem? (i := 67) rfl))) (by decide) (StrChars.Road.backV (W := 1) hZ hws (kI := 4) (hw _ (List.mem_of_getElem? (i := 62) rfl)) (cs := ([c0] : List Int32)) (bs := ([c0] : List Int32).map (fun c => c.toInt8.toInt32)) (n := 1) g16 (Nat.le_trans (own_le O11) K26.1) f27 f28 f29 Vs25 (hp20.ext (O11.keep K26 all0).2) hG1 rfl rfl (by decide) (by decide) hp30 rfl (by decide) (by decide)) (g := (mkF m 83 #[.val (.int j0), .val (.int j1), .val (.int j2), .val (.int j3), .val (.int j4), .val (.int j5), .val (.ref kd_1), .val (.ref kd_2), .val (.int c0), .val (.int c1), .val (.int c2), .unset, .unset, .unset, .unset, .unset] [(.ref b19), (.ref b15), (.ref b15)])) rfl (by rw [hml]; rfl) (Steps.refl _) (a := b15) (argsL := [(.ref b19)]) (rest := [(.ref b15)]) (lenOf own_pd1 rfl) rfl (by show 2 * 0 + _ ≤ _; exact Nat.le_of_eq rfl) (hb hby at_83) (fun _ _ => ⟨rfl, e25, (by decide : 2 + 1 ≤ _), (by decide : 5 + 1 ≤ _)⟩)
      dsimp only [Pt.U, Pt.locs, Pt.cells, Pt.slots] at X31 l31 y31 z31 st31 hQ31
      subst l31 y31 z31
      obtain ⟨rfl, Nq31, Kq31, Ea31, Fc31, t31, kb31, gt31, sz31, nt31, Fv31, Av31⟩ := hQ31
      have N31 := Fr.app N25 Nq31
      have ne32 : b15 ≠ t31 := Nat.ne_of_lt (Nat.lt_of_lt_of_le (Nat.lt_of_lt_of_le A15.lt (Nat.le_trans E19.1 (Nat.le_of_eq (Wr.size W25).symm))) sz31)
      have ne33 : b19 ≠ t31 := Nat.ne_of_lt (Nat.lt_of_lt_of_le (Nat.lt_of_lt_of_le V19.lt (Nat.le_of_eq (Wr.size W25).symm)) sz31)
      have g34 : n0 ≤ t31 := Nat.le_trans (Nat.le_trans (own_le O11) K26.1) sz31
      have b35 : h0.size ≤ t31 := Nat.le_trans K26.1 sz31
      have K36 : Keep h0 T31.heap [] := K26.trans Kq31 (allS (Or.inr b17) all0)
      have Sr31 : own_Str Z T31.heap b15 t31 kb31 ([c0] : List Int32) := ⟨Ea31, Fv31, Fc31, Av31, hp30, (by show 1 ≤ 4000; decide)⟩
      have r37 : GoTo p.tables e below s₁ (own_F_own_law m j0 j1 j2 j3 j4 j5) T31 (mkF m 90 #[.val (.int j0), .val (.int j1), .val (.int j2), .val (.int j3), .val (.int j4), .val (.int j5), .val (.ref kd_1), .val (.ref kd_2), .val (.int c0), .val (.int c1), .val (.int c2), .unset, .unset, .unset, .unset, .unset] [(.ref b15)]) := fun tt_ kk_ => r9 tt_ (by
          show Steps p.tables e below (T2.setTop (mkF m 68 #[.val (.int j0), .val (.int j1), .val (.int j2), .val (.int j3), .val (.int j4), .val (.int j5), .val (.ref kd_1), .val (.ref kd_2), .val (.int c0), .val (.int c1), .val (.int c2), .unset, .unset, .unset, .unset, .unset] [(.int (((j0.toUInt32 >>> ((16 : Int32) &&& 31).toUInt32).toInt32) &&& (1 : Int32)))])) _
          refine XS.ifNo X2.here hx rfl (hb hby at_68) rfl ((if0 _ _).trans (feq hc13).1) ?_
          show Steps p.tables e below (T2.setTop (mkF m 71 #[.val (.int j0), .val (.int j1), .val (.int j2), .val (.int j3), .val (.int j4), .val (.int j5), .val (.ref kd_1), .val (.ref kd_2), .val (.int c0), .val (.int c1), .val (.int c2), .unset, .unset, .unset, .unset, .unset] [])) _
          refine st15 _ ?_
          show Steps p.tables e below (T15.setTop (mkF m 74 #[.val (.int j0), .val (.int j1), .val (.int j2), .val (.int j3), .val (.int j4), .val (.int j5), .val (.ref kd_1), .val (.ref kd_2), .val (.int c0), .val (.int c1), .val (.int c2), .unset, .unset, .unset, .unset, .unset] [(.ref b15)])) _
          refine XS.dup X15.here hx rfl (hb hby at_74) rfl rfl ?_
          show Steps p.tables e below (T15.setTop (mkF m 75 #[.val (.int j0), .val (.int j1), .val (.int j2), .val (.int j3), .val (.int j4), .val (.int j5), .val (.ref kd_1), .val (.ref kd_2), .val (.int c0), .val (.int c1), .val (.int c2), .unset, .unset, .unset, .unset, .unset] [(.ref b15), (.ref b15)])) _
          refine XS.iconst X15.here hx rfl (hb hby at_75) ?_
          show Steps p.tables e below (T15.setTop (mkF m 76 #[.val (.int j0), .val (.int j1), .val (.int j2), .val (.int j3), .val (.int j4), .val (.int j5), .val (.ref kd_1), .val (.ref kd_2), .val (.int c0), .val (.int c1), .val (.int c2), .unset, .unset, .unset, .unset, .unset] [(.int (1 : Int32)), (.ref b15), (.ref b15)])) _
          refine st19 _ ?_
          show Steps p.tables e below (T19.setTop (mkF m 78 #[.val (.int j0), .val (.int j1), .val (.int j2), .val (.int j3), .val (.int j4), .val (.int j5), .val (.ref kd_1), .val (.ref kd_2), .val (.int c0), .val (.int c1), .val (.int c2), .unset, .unset, .unset, .unset, .unset] [(.ref b19), (.ref b15), (.ref b15)])) _
          refine XS.dup X19.here hx rfl (hb hby at_78) rfl rfl ?_
          show Steps p.tables e below (T19.setTop (mkF m 79 #[.val (.int j0), .val (.int j1), .val (.int j2), .val (.int j3), .val (.int j4), .val (.int j5), .val (.ref kd_1), .val (.ref kd_2), .val (.int c0), .val (.int c1), .val (.int c2), .unset, .unset, .unset, .unset, .unset] [(.ref b19), (.ref b19), (.ref b15), (.ref b15)])) _
          refine XS.iconst X19.here hx rfl (hb hby at_79) ?_
          show Steps p.tables e below (T19.setTop (mkF m 80 #[.val (.int j0), .val (.int j1), .val (.int j2), .val (.int j3), .val (.int j4), .val (.int j5), .val (.ref kd_1), .val (.ref kd_2), .val (.int c0), .val (.int c1), .val (.int c2), .unset, .unset, .unset, .unset, .unset] [(.int (0 : Int32)), (.ref b19), (.ref b19), (.ref b15), (.ref b15)])) _
          refine XS.iload X19.here hx rfl (hb hby at_80) rfl ?_
          show Steps p.tables e below (T19.setTop (mkF m 82 #[.val (.int j0), .val (.int j1), .val (.int j2), .val (.int j3), .val (.int j4), .val (.int j5), .val (.ref kd_1), .val (.ref kd_2), .val (.int c0), .val (.int c1), .val (.int c2), .unset, .unset, .unset, .unset, .unset] [(.int c0), (.int (0 : Int32)), (.ref b19), (.ref b19), (.ref b15), (.ref b15)])) _
          refine st25 _ ?_
          show Steps p.tables e below (T25.setTop (mkF m 83 #[.val (.int j0), .val (.int j1), .val (.int j2), .val (.int j3), .val (.int j4), .val (.int j5), .val (.ref kd_1), .val (.ref kd_2), .val (.int c0), .val (.int c1), .val (.int c2), .unset, .unset, .unset, .unset, .unset] [(.ref b19), (.ref b15), (.ref b15)])) _
          refine st31.trans ?_
          show Steps p.tables e below (T31.setTop (mkF m 86 #[.val (.int j0), .val (.int j1), .val (.int j2), .val (.int j3), .val (.int j4), .val (.int j5), .val (.ref kd_1), .val (.ref kd_2), .val (.int c0), .val (.int c1), .val (.int c2), .unset, .unset, .unset, .unset, .unset] [(.ref b15)])) _
          refine XS.goto X31.here hx rfl (pc0 := 86) (pc' := 90) rfl (hb hby at_86) (by decide) (by decide) ?_
          show Steps p.tables e below (T31.setTop (mkF m 90 #[.val (.int j0), .val (.int j1), .val (.int j2), .val (.int j3), .val (.int j4), .val (.int j5), .val (.ref kd_1), .val (.ref kd_2), .val (.int c0), .val (.int c1), .val (.int c2), .unset, .unset, .unset, .unset, .unset] [(.ref b15)])) _
          exact kk_)
      exact ⟨T31, _, _, (.ref b15), own_mono X31 (by decide) (by decide), N31, rfl, K36, rfl, r37⟩
  have K38 : Keep h0 h10 [] := K0.trans Kj10 all0
  have r39 : GoTo p.tables e below s₁ (own_F_own_law m j0 j1 j2 j3 j4 j5) T10 (mkF m 98 #[.val (.int j0), .val (.int j1), .val (.int j2), .val (.int j3), .val (.int j4), .val (.int j5), .val (.ref kd_1), .val (.ref kd_2), .val (.int c0), .val (.int c1), .val (.int c2), .val sv10, .unset, .unset, .unset, .unset] [(.int (((j0.toUInt32 >>> ((17 : Int32) &&& 31).toUInt32).toInt32) &&& (1 : Int32)))]) := fun tt_ kk_ => r10 tt_ (by
      show Steps p.tables e below (T10.setTop (mkF m 90 #[.val (.int j0), .val (.int j1), .val (.int j2), .val (.int j3), .val (.int j4), .val (.int j5), .val (.ref kd_1), .val (.ref kd_2), .val (.int c0), .val (.int c1), .val (.int c2), .unset, .unset, .unset, .unset, .unset] [sv10])) _
      refine XS.astore X10.here hx rfl (hb hby at_90) rfl hs10 (l' := #[.val (.int j0), .val (.int j1), .val (.int j2), .val (.int j3), .val (.int j4), .val (.int j5), .val (.ref kd_1), .val (.ref kd_2), .val (.int c0), .val (.int c1), .val (.int c2), .val sv10, .unset, .unset, .unset, .unset]) (XS.store1 rfl (Or.inl rfl) (own_cat hs10)) ?_
      show Steps p.tables e below (T10.setTop (mkF m 92 #[.val (.int j0), .val (.int j1), .val (.int j2), .val (.int j3), .val (.int j4), .val (.int j5), .val (.ref kd_1), .val (.ref kd_2), .val (.int c0), .val (.int c1), .val (.int c2), .val sv10, .unset, .unset, .unset, .unset] [])) _
      refine XS.iloadN X10.here hx rfl (hb hby at_92) rfl ?_
      show Steps p.tables e below (T10.setTop (mkF m 93 #[.val (.int j0), .val (.int j1), .val (.int j2), .val (.int j3), .val (.int j4), .val (.int j5), .val (.ref kd_1), .val (.ref kd_2), .val (.int c0), .val (.int c1), .val (.int c2), .val sv10, .unset, .unset, .unset, .unset] [(.int j0)])) _
      refine XS.bipush X10.here hx rfl (hb hby at_93) ?_
      show Steps p.tables e below (T10.setTop (mkF m 95 #[.val (.int j0), .val (.int j1), .val (.int j2), .val (.int j3), .val (.int j4), .val (.int j5), .val (.ref kd_1), .val (.ref kd_2), .val (.int c0), .val (.int c1), .val (.int c2), .val sv10, .unset, .unset, .unset, .unset] [(.int (17 : Int32)), (.int j0)])) _
      refine XS.iushr X10.here hx rfl (hb hby at_95) rfl ?_
      show Steps p.tables e below (T10.setTop (mkF m 96 #[.val (.int j0), .val (.int j1), .val (.int j2), .val (.int j3), .val (.int j4), .val (.int j5), .val (.ref kd_1), .val (.ref kd_2), .val (.int c0), .val (.int c1), .val (.int c2), .val sv10, .unset, .unset, .unset, .unset] [(.int ((j0.toUInt32 >>> ((17 : Int32) &&& 31).toUInt32).toInt32))])) _
      refine XS.iconst X10.here hx rfl (hb hby at_96) ?_
      show Steps p.tables e below (T10.setTop (mkF m 97 #[.val (.int j0), .val (.int j1), .val (.int j2), .val (.int j3), .val (.int j4), .val (.int j5), .val (.ref kd_1), .val (.ref kd_2), .val (.int c0), .val (.int c1), .val (.int c2), .val sv10, .unset, .unset, .unset, .unset] [(.int (1 : Int32)), (.int ((j0.toUInt32 >>> ((17 : Int32) &&& 31).toUInt32).toInt32))])) _
      refine XS.iand X10.here hx rfl (hb hby at_97) rfl ?_
      show Steps p.tables e below (T10.setTop (mkF m 98 #[.val (.int j0), .val (.int j1), .val (.int j2), .val (.int j3), .val (.int j4), .val (.int j5), .val (.ref kd_1), .val (.ref kd_2), .val (.int c0), .val (.int c1), .val (.int c2), .val sv10, .unset, .unset, .unset, .unset] [(.int (((j0.toUInt32 >>> ((17 : Int32) &&& 31).toUInt32).toInt32) &&& (1 : Int32)))])) _
      exact kk_)
  obtain ⟨T40, Lj40, h40, sv40, X40, N40, e40, Kj40, hs40, r40⟩ : ∃ (T' : State) (L' : List Loc) (h' : Heap) (sv40 : Value), Stand p l e room_1 s m #[(.int j0), (.int j1), (.int j2), (.int j3), (.int j4), (.int j5)] below meth c T' L' 6 14 ∧ Fr n0 L' ∧ T'.heap = h' ∧ Keep h10 h' [] ∧ sv40.isRef = true ∧ GoTo p.tables e below s₁ (own_F_own_law m j0 j1 j2 j3 j4 j5) T' (mkF m 125 #[.val (.int j0), .val (.int j1), .val (.int j2), .val (.int j3), .val (.int j4), .val (.int j5), .val (.ref kd_1), .val (.ref kd_2), .val (.int c0), .val (.int c1), .val (.int c2), .val sv10, .unset, .unset, .unset, .unset] [sv40]) := by
    have O41 : Old Z n0 h10 := (O0.keep K38 all0)
    have K42 : Keep h10 h10 [] := Keep.refl _ _
    by_cases hc43 : (((j0.toUInt32 >>> ((17 : Int32) &&& 31).toUInt32).toInt32) &&& (1 : Int32)) = (0 : Int32)
    · have r44 : GoTo p.tables e below s₁ (own_F_own_law m j0 j1 j2 j3 j4 j5) T10 (mkF m 125 #[.val (.int j0), .val (.int j1), .val (.int j2), .val (.int j3), .val (.int j4), .val (.int j5), .val (.ref kd_1), .val (.ref kd_2), .val (.int c0), .val (.int c1), .val (.int c2), .val sv10, .unset, .unset, .unset, .unset] [.null]) := fun tt_ kk_ => r39 tt_ (by
          show Steps p.tables e below (T10.setTop (mkF m 98 #[.val (.int j0), .val (.int j1), .val (.int j2), .val (.int j3), .val (.int j4), .val (.int j5), .val (.ref kd_1), .val (.ref kd_2), .val (.int c0), .val (.int c1), .val (.int c2), .val sv10, .unset, .unset, .unset, .unset] [(.int (((j0.toUInt32 >>> ((17 : Int32) &&& 31).toUInt32).toInt32) &&& (1 : Int32)))])) _
          refine XS.ifYes X10.here hx rfl (pc0 := 98) (pc' := 124) rfl (hb hby at_98) rfl ((if0 _ _).trans (teq hc43).1) (by decide) (by decide) ?_
          show Steps p.tables e below (T10.setTop (mkF m 124 #[.val (.int j0), .val (.int j1), .val (.int j2), .val (.int j3), .val (.int j4), .val (.int j5), .val (.ref kd_1), .val (.ref kd_2), .val (.int c0), .val (.int c1), .val (.int c2), .val sv10, .unset, .unset, .unset, .unset] [])) _
          refine XS.aconstNull X10.here hx rfl (hb hby at_124) ?_
          show Steps p.tables e below (T10.setTop (mkF m 125 #[.val (.int j0), .val (.int j1), .val (.int j2), .val (.int j3), .val (.int j4), .val (.int j5), .val (.ref kd_1), .val (.ref kd_2), .val (.int c0), .val (.int c1), .val (.int c2), .val sv10, .unset, .unset, .unset, .unset] [.null])) _
          exact kk_)
      exact ⟨T10, _, _, .null, own_mono X10 (by decide) (by decide), N10, e10, K42, rfl, r44⟩
    · obtain ⟨T45, h45, X45, e45, E45, A45, D45, -, st45⟩ := newO X10 hx hZ hown (hw _ (List.mem_of_getElem? (i := 61) rfl)) (hw _ (List.mem_of_getElem? (i := 62) rfl)) (hw _ (List.mem_of_getElem? (i := 63) rfl)) e10 (g := (mkF m 101 #[.val (.int j0), .val (.int j1), .val (.int j2), .val (.int j3), .val (.int j4), .val (.int j5), .val (.ref kd_1), .val (.ref kd_2), .val (.int c0), .val (.int c1), .val (.int c2), .val sv10, .unset, .unset, .unset, .unset] [])) rfl (hb hby at_101) (by decide) (by decide)
      obtain ⟨b45, gg45⟩ : ∃ z, z = h10.size := ⟨_, rfl⟩
      rw [← gg45] at A45 D45 st45
      have g46 : n0 ≤ b45 := Nat.le_trans (Nat.le_trans (own_le O41) K42.1) (Nat.le_of_eq gg45.symm)
      have b47 : h10.size ≤ b45 := Nat.le_trans K42.1 (Nat.le_of_eq gg45.symm)
      have K48 : Keep h10 h45 [] := K42.ext E45
      obtain ⟨T49, h49, k49, X49, e49, E49, A49, st49⟩ := newP X45 hx hZ (hw _ (List.mem_of_getElem? (i := 64) rfl)) e45 (g := (mkF m 106 #[.val (.int j0), .val (.int j1), .val (.int j2), .val (.int j3), .val (.int j4), .val (.int j5), .val (.ref kd_1), .val (.ref kd_2), .val (.int c0), .val (.int c1), .val (.int c2), .val sv10, .unset, .unset, .unset, .unset] [(.int (2 : Int32)), (.ref b45), (.ref b45)])) rfl (hb hby at_106) rfl (by decide) (cap := 2) (by decide) (by decide) (by decide) (by decide)
      obtain ⟨b49, gg49⟩ : ∃ z, z = h45.size := ⟨_, rfl⟩
      rw [← gg49] at A49 st49
      have ne50 : b45 ≠ b49 := Nat.ne_of_lt (Nat.lt_of_lt_of_le A45.lt (Nat.le_of_eq gg49.symm))
      have g51 : n0 ≤ b49 := Nat.le_trans (Nat.le_trans (own_le O41) K48.1) (Nat.le_of_eq gg49.symm)
      have b52 : h10.size ≤ b49 := Nat.le_trans K48.1 (Nat.le_of_eq gg49.symm)
      have K53 : Keep h10 h49 [] := K48.ext E49
      have V49 : Arv Z h49 b49 k49 .char (2 : Int32) [(.int (0 : Int32)), (.int (0 : Int32))] (.int (0 : Int32)) := (Arv.new A49 (by decide)).pad (pad_rep [] (.int (0 : Int32)) 2)
      obtain ⟨cl54, Ar54, q54, S54, NN54, H54, G54⟩ := id V49
      have hin54 : ¬ ((0 : Int32) < 0 ∨ cl54.slots.size ≤ ((0 : Int32)).toNatClampNeg) := inb_of S54 ⟨by decide, by decide⟩
      obtain ⟨T55, h55, X55, e55, W55, st55⟩ := stC X49 hx hZ e49 Ar54 (j := (0 : Int32)) hin54 (g := (mkF m 112 #[.val (.int j0), .val (.int j1), .val (.int j2), .val (.int j3), .val (.int j4), .val (.int j5), .val (.ref kd_1), .val (.ref kd_2), .val (.int c0), .val (.int c1), .val (.int c2), .val sv10, .unset, .unset, .unset, .unset] [(.int c1), (.int (0 : Int32)), (.ref b49), (.ref b49), (.ref b45), (.ref b45)])) rfl rfl (hb hby at_112)
      have K56 : Keep h10 h55 [] := K53.wr W55 (Or.inr b52)
      have V55 : Arv Z h55 b49 k49 .char (2 : Int32) [(.int (nar .char c1)), (.int (0 : Int32))] (.int (0 : Int32)) := Arv.set Ar54 q54 S54 NN54 H54 G54 (fits_nar_char _) W55 0 rfl (Nat.le_of_ble_eq_true rfl)
      have Vs55 : Arv Z h55 b49 k49 .char (2 : Int32) [(.int c1), (.int (0 : Int32))] (.int (0 : Int32)) := by rw [show (nar .char c1) = c1 from hr_c1.2] at V55; exact V55
      have N55 := Fr.snoc X55 N10 g51
      obtain ⟨cl57, Ar57, q57, S57, NN57, H57, G57⟩ := id Vs55
      have hin57 : ¬ ((1 : Int32) < 0 ∨ cl57.slots.size ≤ ((1 : Int32)).toNatClampNeg) := inb_of S57 ⟨by decide, by decide⟩
      obtain ⟨T58, h58, X58, e58, W58, st58⟩ := stC X55 hx hZ e55 Ar57 (j := (1 : Int32)) hin57 (g := (mkF m 117 #[.val (.int j0), .val (.int j1), .val (.int j2), .val (.int j3), .val (.int j4), .val (.int j5), .val (.ref kd_1), .val (.ref kd_2), .val (.int c0), .val (.int c1), .val (.int c2), .val sv10, .unset, .unset, .unset, .unset] [(.int c2), (.int (1 : Int32)), (.ref b49), (.ref b49), (.ref b45), (.ref b45)])) rfl rfl (hb hby at_117)
      have K59 : Keep h10 h58 [] := K56.wr W58 (Or.inr b52)
      have V58 : Arv Z h58 b49 k49 .char (2 : Int32) [(.int c1), (.int (nar .char c2))] (.int (0 : Int32)) := Arv.set Ar57 q57 S57 NN57 H57 G57 (fits_nar_char _) W58 1 rfl (Nat.le_of_ble_eq_true rfl)
      have Vs58 : Arv Z h58 b49 k49 .char (2 : Int32) [(.int c1), (.int c2)] (.int (0 : Int32)) := by rw [show (nar .char c2) = c2 from hr_c2.2] at V58; exact V58
      have N58 := Fr.snoc X58 N55 g51
      have hws : ∀ d ∈ StrChars.Road.words, d.before a0 Z = true := fun d hd => hw d (own_in_words d hd)
      have f60 : Exa Z h58 b45 "java/lang/String" := (((A45.ext E49).wr W55).wr W58)
      have f61 : Fld Z h58 b45 "java/lang/String" "value" "[B" .null := ((((D45 (Or.inr (hw _ (List.mem_of_getElem? (i := 88) rfl))) (ty := (.array .byte)) (by decide)).ext E49).other W55 (Or.inl ne50)).other W58 (Or.inl ne50))
      have f62 : Fld Z h58 b45 "java/lang/String" "coder" "B" (.int (0 : Int32)) := ((((D45 (Or.inr (hw _ (List.mem_of_getElem? (i := 86) rfl))) (ty := .byte) (by decide)).ext E49).other W55 (Or.inl ne50)).other W58 (Or.inl ne50))
      have hp63 : ∀ c ∈ ([c1, c2] : List Int32), ¬ c < 0 ∧ ¬ (255 : Int32) < c := own_allC hr_c1.1 (own_allC hr_c2.1 (own_all0))
      obtain ⟨_, _, ⟨T64, L64, k64, n64⟩, -, X64, ⟨Lc64, hQ64, l64, y64, z64⟩, st64⟩ := X58.specialBack hx (y := (⟨"java/lang/String", "<init>", "([C)V"⟩ : MethodName)) rfl hown (mvT hZ (hw _ (List.mem_of_getElem? (i := 65) rfl))) (mvT hZ (hw _ (List.mem_of_getElem? (i := 66) rfl))) (mvT hZ (hw _ (List.mem_of_getElem? (i := 67) rfl))) (by decide) (StrChars.Road.backV (W := 1) hZ hws (kI := 4) (hw _ (List.mem_of_getElem? (i := 62) rfl)) (cs := ([c1, c2] : List Int32)) (bs := ([c1, c2] : List Int32).map (fun c => c.toInt8.toInt32)) (n := 2) g46 (Nat.le_trans (own_le O41) K59.1) f60 f61 f62 Vs58 (hp20.ext (O41.keep K59 all0).2) hG1 rfl rfl (by decide) (by decide) hp63 rfl (by decide) (by decide)) (g := (mkF m 118 #[.val (.int j0), .val (.int j1), .val (.int j2), .val (.int j3), .val (.int j4), .val (.int j5), .val (.ref kd_1), .val (.ref kd_2), .val (.int c0), .val (.int c1), .val (.int c2), .val sv10, .unset, .unset, .unset, .unset] [(.ref b49), (.ref b45), (.ref b45)])) rfl (by rw [hml]; rfl) (Steps.refl _) (a := b45) (argsL := [(.ref b49)]) (rest := [(.ref b45)]) (lenOf own_pd1 rfl) rfl (by show 2 * 0 + _ ≤ _; exact Nat.le_of_eq rfl) (hb hby at_118) (fun _ _ => ⟨rfl, e58, (by decide : 5 + 1 ≤ _), (by decide : 12 + 2 ≤ _)⟩)
      dsimp only [Pt.U, Pt.locs, Pt.cells, Pt.slots] at X64 l64 y64 z64 st64 hQ64
      subst l64 y64 z64
      obtain ⟨rfl, Nq64, Kq64, Ea64, Fc64, t64, kb64, gt64, sz64, nt64, Fv64, Av64⟩ := hQ64
      have N64 := Fr.app N58 Nq64
      have ne65 : b45 ≠ t64 := Nat.ne_of_lt (Nat.lt_of_lt_of_le (Nat.lt_of_lt_of_le A45.lt (Nat.le_trans (Nat.le_trans E49.1 (Nat.le_of_eq (Wr.size W55).symm)) (Nat.le_of_eq (Wr.size W58).symm))) sz64)
      have ne66 : b49 ≠ t64 := Nat.ne_of_lt (Nat.lt_of_lt_of_le (Nat.lt_of_lt_of_le V49.lt (Nat.le_trans (Nat.le_of_eq (Wr.size W55).symm) (Nat.le_of_eq (Wr.size W58).symm))) sz64)
      have g67 : n0 ≤ t64 := Nat.le_trans (Nat.le_trans (own_le O41) K59.1) sz64
      have b68 : h10.size ≤ t64 := Nat.le_trans K59.1 sz64
      have K69 : Keep h10 T64.heap [] := K59.trans Kq64 (allS (Or.inr b47) all0)
      have Sr64 : own_Str Z T64.heap b45 t64 kb64 ([c1, c2] : List Int32) := ⟨Ea64, Fv64, Fc64, Av64, hp63, (by show 2 ≤ 4000; decide)⟩
      have r70 : GoTo p.tables e below s₁ (own_F_own_law m j0 j1 j2 j3 j4 j5) T64 (mkF m 125 #[.val (.int j0), .val (.int j1), .val (.int j2), .val (.int j3), .val (.int j4), .val (.int j5), .val (.ref kd_1), .val (.ref kd_2), .val (.int c0), .val (.int c1), .val (.int c2), .val sv10, .unset, .unset, .unset, .unset] [(.ref b45)]) := fun tt_ kk_ => r39 tt_ (by
          show Steps p.tables e below (T10.setTop (mkF m 98 #[.val (.int j0), .val (.int j1), .val (.int j2), .val (.int j3), .val (.int j4), .val (.int j5), .val (.ref kd_1), .val (.ref kd_2), .val (.int c0), .val (.int c1), .val (.int c2), .val sv10, .unset, .unset, .unset, .unset] [(.int (((j0.toUInt32 >>> ((17 : Int32) &&& 31).toUInt32).toInt32) &&& (1 : Int32)))])) _
          refine XS.ifNo X10.here hx rfl (hb hby at_98) rfl ((if0 _ _).trans (feq hc43).1) ?_
          show Steps p.tables e below (T10.setTop (mkF m 101 #[.val (.int j0), .val (.int j1), .val (.int j2), .val (.int j3), .val (.int j4), .val (.int j5), .val (.ref kd_1), .val (.ref kd_2), .val (.int c0), .val (.int c1), .val (.int c2), .val sv10, .unset, .unset, .unset, .unset] [])) _
          refine st45 _ ?_
          show Steps p.tables e below (T45.setTop (mkF m 104 #[.val (.int j0), .val (.int j1), .val (.int j2), .val (.int j3), .val (.int j4), .val (.int j5), .val (.ref kd_1), .val (.ref kd_2), .val (.int c0), .val (.int c1), .val (.int c2), .val sv10, .unset, .unset, .unset, .unset] [(.ref b45)])) _
          refine XS.dup X45.here hx rfl (hb hby at_104) rfl rfl ?_
          show Steps p.tables e below (T45.setTop (mkF m 105 #[.val (.int j0), .val (.int j1), .val (.int j2), .val (.int j3), .val (.int j4), .val (.int j5), .val (.ref kd_1), .val (.ref kd_2), .val (.int c0), .val (.int c1), .val (.int c2), .val sv10, .unset, .unset, .unset, .unset] [(.ref b45), (.ref b45)])) _
          refine XS.iconst X45.here hx rfl (hb hby at_105) ?_
          show Steps p.tables e below (T45.setTop (mkF m 106 #[.val (.int j0), .val (.int j1), .val (.int j2), .val (.int j3), .val (.int j4), .val (.int j5), .val (.ref kd_1), .val (.ref kd_2), .val (.int c0), .val (.int c1), .val (.int c2), .val sv10, .unset, .unset, .unset, .unset] [(.int (2 : Int32)), (.ref b45), (.ref b45)])) _
          refine st49 _ ?_
          show Steps p.tables e below (T49.setTop (mkF m 108 #[.val (.int j0), .val (.int j1), .val (.int j2), .val (.int j3), .val (.int j4), .val (.int j5), .val (.ref kd_1), .val (.ref kd_2), .val (.int c0), .val (.int c1), .val (.int c2), .val sv10, .unset, .unset, .unset, .unset] [(.ref b49), (.ref b45), (.ref b45)])) _
          refine XS.dup X49.here hx rfl (hb hby at_108) rfl rfl ?_
          show Steps p.tables e below (T49.setTop (mkF m 109 #[.val (.int j0), .val (.int j1), .val (.int j2), .val (.int j3), .val (.int j4), .val (.int j5), .val (.ref kd_1), .val (.ref kd_2), .val (.int c0), .val (.int c1), .val (.int c2), .val sv10, .unset, .unset, .unset, .unset] [(.ref b49), (.ref b49), (.ref b45), (.ref b45)])) _
          refine XS.iconst X49.here hx rfl (hb hby at_109) ?_
          show Steps p.tables e below (T49.setTop (mkF m 110 #[.val (.int j0), .val (.int j1), .val (.int j2), .val (.int j3), .val (.int j4), .val (.int j5), .val (.ref kd_1), .val (.ref kd_2), .val (.int c0), .val (.int c1), .val (.int c2), .val sv10, .unset, .unset, .unset, .unset] [(.int (0 : Int32)), (.ref b49), (.ref b49), (.ref b45), (.ref b45)])) _
          refine XS.iload X49.here hx rfl (hb hby at_110) rfl ?_
          show Steps p.tables e below (T49.setTop (mkF m 112 #[.val (.int j0), .val (.int j1), .val (.int j2), .val (.int j3), .val (.int j4), .val (.int j5), .val (.ref kd_1), .val (.ref kd_2), .val (.int c0), .val (.int c1), .val (.int c2), .val sv10, .unset, .unset, .unset, .unset] [(.int c1), (.int (0 : Int32)), (.ref b49), (.ref b49), (.ref b45), (.ref b45)])) _
          refine st55 _ ?_
          show Steps p.tables e below (T55.setTop (mkF m 113 #[.val (.int j0), .val (.int j1), .val (.int j2), .val (.int j3), .val (.int j4), .val (.int j5), .val (.ref kd_1), .val (.ref kd_2), .val (.int c0), .val (.int c1), .val (.int c2), .val sv10, .unset, .unset, .unset, .unset] [(.ref b49), (.ref b45), (.ref b45)])) _
          refine XS.dup X55.here hx rfl (hb hby at_113) rfl rfl ?_
          show Steps p.tables e below (T55.setTop (mkF m 114 #[.val (.int j0), .val (.int j1), .val (.int j2), .val (.int j3), .val (.int j4), .val (.int j5), .val (.ref kd_1), .val (.ref kd_2), .val (.int c0), .val (.int c1), .val (.int c2), .val sv10, .unset, .unset, .unset, .unset] [(.ref b49), (.ref b49), (.ref b45), (.ref b45)])) _
          refine XS.iconst X55.here hx rfl (hb hby at_114) ?_
          show Steps p.tables e below (T55.setTop (mkF m 115 #[.val (.int j0), .val (.int j1), .val (.int j2), .val (.int j3), .val (.int j4), .val (.int j5), .val (.ref kd_1), .val (.ref kd_2), .val (.int c0), .val (.int c1), .val (.int c2), .val sv10, .unset, .unset, .unset, .unset] [(.int (1 : Int32)), (.ref b49), (.ref b49), (.ref b45), (.ref b45)])) _
          refine XS.iload X55.here hx rfl (hb hby at_115) rfl ?_
          show Steps p.tables e below (T55.setTop (mkF m 117 #[.val (.int j0), .val (.int j1), .val (.int j2), .val (.int j3), .val (.int j4), .val (.int j5), .val (.ref kd_1), .val (.ref kd_2), .val (.int c0), .val (.int c1), .val (.int c2), .val sv10, .unset, .unset, .unset, .unset] [(.int c2), (.int (1 : Int32)), (.ref b49), (.ref b49), (.ref b45), (.ref b45)])) _
          refine st58 _ ?_
          show Steps p.tables e below (T58.setTop (mkF m 118 #[.val (.int j0), .val (.int j1), .val (.int j2), .val (.int j3), .val (.int j4), .val (.int j5), .val (.ref kd_1), .val (.ref kd_2), .val (.int c0), .val (.int c1), .val (.int c2), .val sv10, .unset, .unset, .unset, .unset] [(.ref b49), (.ref b45), (.ref b45)])) _
          refine st64.trans ?_
          show Steps p.tables e below (T64.setTop (mkF m 121 #[.val (.int j0), .val (.int j1), .val (.int j2), .val (.int j3), .val (.int j4), .val (.int j5), .val (.ref kd_1), .val (.ref kd_2), .val (.int c0), .val (.int c1), .val (.int c2), .val sv10, .unset, .unset, .unset, .unset] [(.ref b45)])) _
          refine XS.goto X64.here hx rfl (pc0 := 121) (pc' := 125) rfl (hb hby at_121) (by decide) (by decide) ?_
          show Steps p.tables e below (T64.setTop (mkF m 125 #[.val (.int j0), .val (.int j1), .val (.int j2), .val (.int j3), .val (.int j4), .val (.int j5), .val (.ref kd_1), .val (.ref kd_2), .val (.int c0), .val (.int c1), .val (.int c2), .val sv10, .unset, .unset, .unset, .unset] [(.ref b45)])) _
          exact kk_)
      exact ⟨T64, _, _, (.ref b45), own_mono X64 (by decide) (by decide), N64, rfl, K69, rfl, r70⟩
  have K71 : Keep h0 h40 [] := K38.trans Kj40 all0
  obtain ⟨T72, h72, X72, e72, E72, A72, D72, -, st72⟩ := newO X40 hx hZ hown (hw _ (List.mem_of_getElem? (i := 7) rfl)) (hw _ (List.mem_of_getElem? (i := 8) rfl)) (hw _ (List.mem_of_getElem? (i := 9) rfl)) e40 (g := (mkF m 127 #[.val (.int j0), .val (.int j1), .val (.int j2), .val (.int j3), .val (.int j4), .val (.int j5), .val (.ref kd_1), .val (.ref kd_2), .val (.int c0), .val (.int c1), .val (.int c2), .val sv10, .val sv40, .unset, .unset, .unset] [])) rfl (hb hby at_127) (by decide) (by decide)
  obtain ⟨b72, gg72⟩ : ∃ z, z = h40.size := ⟨_, rfl⟩
  rw [← gg72] at A72 D72 st72
  have g73 : n0 ≤ b72 := Nat.le_trans (Nat.le_trans (own_le O0) K71.1) (Nat.le_of_eq gg72.symm)
  have b74 : h0.size ≤ b72 := Nat.le_trans K71.1 (Nat.le_of_eq gg72.symm)
  have K75 : Keep h0 h72 [] := K71.ext E72
  obtain ⟨_, _, ⟨T76, L76, k76, n76⟩, -, X76, ⟨Lc76, hQ76, l76, y76, z76⟩, st76⟩ := X72.specialBack hx (y := (⟨"com/example/interfold/interfold/fidl/Token", "<init>", "()V"⟩ : MethodName)) rfl hown (mvT hZ (hw _ (List.mem_of_getElem? (i := 10) rfl))) (mvT hZ (hw _ (List.mem_of_getElem? (i := 11) rfl))) (mvT hZ (hw _ (List.mem_of_getElem? (i := 12) rfl))) (by decide) (backOf (W := 1) (own_tin l Z a0 hw [] (b72) h72 n0 (O0.keep K75 all0)) hZ (hw _ (List.mem_of_getElem? (i := 12) rfl)) (hw _ (List.mem_of_getElem? (i := 9) rfl)) (by decide) (by decide)) (g := (mkF m 131 #[.val (.int j0), .val (.int j1), .val (.int j2), .val (.int j3), .val (.int j4), .val (.int j5), .val (.ref kd_1), .val (.ref kd_2), .val (.int c0), .val (.int c1), .val (.int c2), .val sv10, .val sv40, .unset, .unset, .unset] [(.ref b72), (.ref b72)])) rfl (by rw [hml]; rfl) (Steps.refl _) (a := b72) (argsL := []) (rest := [(.ref b72)]) (lenOf own_pd2 rfl) rfl (by show 2 * 0 + _ ≤ _; exact Nat.le_of_eq rfl) (hb hby at_131) (fun _ _ => ⟨rfl, e72, (by decide : 7 + 0 ≤ _), (by decide : 18 + 0 ≤ _)⟩)
  dsimp only [Pt.U, Pt.locs, Pt.cells, Pt.slots] at X76 l76 y76 z76 st76 hQ76
  subst l76 y76 z76
  obtain ⟨rfl, Nq76, hh76⟩ := hQ76
  have N76 := Fr.app N40 Nq76
  obtain ⟨cq77, kq77, qa77, qb77, qc77⟩ := isOf hZ hh76 A72
  obtain ⟨_, _, ⟨T77, L77, k77, n77⟩, -, X77, ⟨Lc77, hQ77, l77, y77, z77⟩, st77⟩ := X76.virtualBack hx (y := (⟨"com/example/interfold/interfold/fidl/Token", "set", "(Lcom/example/interfold/interfold/fidl/Token$Kind;IILjava/lang/String;)V"⟩ : MethodName)) (z := (⟨"com/example/interfold/interfold/fidl/Token", "set", "(Lcom/example/interfold/interfold/fidl/Token$Kind;IILjava/lang/String;)V"⟩ : MethodName)) hown (mvT hZ (hw _ (List.mem_of_getElem? (i := 16) rfl))) (mvT hZ (hw _ (List.mem_of_getElem? (i := 17) rfl))) (notFace_of_selects (args := #[]) (mvT hZ (hw _ (List.mem_of_getElem? (i := 19) rfl)))) (mvT hZ (hw _ (List.mem_of_getElem? (i := 19) rfl))) (mvT hZ (hw _ (List.mem_of_getElem? (i := 18) rfl))) (by decide) (backOf (W := 0) (own_set l Z a0 hw [] (b72) (kd_1) (j1) (j2) (sv10) (.null) ((.int (0 : Int32))) ((.int (0 : Int32))) (.null) h72 n0 (O0.keep K75 all0) (hs10) (A72) (g73) ((D72 (Or.inl (hw _ (List.mem_of_getElem? (i := 22) rfl))) (ty := (.object "com/example/interfold/interfold/fidl/Token$Kind")) (by decide))) ((D72 (Or.inl (hw _ (List.mem_of_getElem? (i := 24) rfl))) (ty := .int) (by decide))) ((D72 (Or.inl (hw _ (List.mem_of_getElem? (i := 26) rfl))) (ty := .int) (by decide))) ((D72 (Or.inl (hw _ (List.mem_of_getElem? (i := 28) rfl))) (ty := (.object "java/lang/String")) (by decide)))) hZ (hw _ (List.mem_of_getElem? (i := 20) rfl)) (hw _ (List.mem_of_getElem? (i := 9) rfl)) (by decide) (by decide)) qa77 qc77 (g := (mkF m 144 #[.val (.int j0), .val (.int j1), .val (.int j2), .val (.int j3), .val (.int j4), .val (.int j5), .val (.ref kd_1), .val (.ref kd_2), .val (.int c0), .val (.int c1), .val (.int c2), .val sv10, .val sv40, .val (.ref b72), .unset, .unset] [sv10, (.int j2), (.int j1), (.ref kd_1), (.ref b72)])) rfl (by rw [hml]; rfl) (Steps.refl _) (argsL := [(.ref kd_1), (.int j1), (.int j2), sv10]) (rest := []) (lenOf own_pd3 rfl) rfl (by show 2 * 0 + _ ≤ _; exact Nat.le_of_eq rfl) (hb hby at_144) (fun _ _ => ⟨rfl, hh76, (by decide : 7 + 0 ≤ _), (by decide : 18 + 0 ≤ _)⟩)
  dsimp only [Pt.U, Pt.locs, Pt.cells, Pt.slots] at X77 l77 y77 z77 st77 hQ77
  subst l77 y77 z77
  obtain ⟨rfl, Nq77, Kq77, po77_0, po77_1, po77_2, po77_3, po77_4⟩ := hQ77
  have N77 := Fr.app N76 Nq77
  have K78 : Keep h0 T77.heap [] := K75.trans Kq77 (allS (Or.inr b74) all0)
  obtain ⟨cq79, kq79, qa79, qb79, qc79⟩ := isOf hZ rfl po77_0
  obtain ⟨_, _, ⟨T79, L79, k79, n79⟩, -, X79, ⟨Lc79, hQ79, l79, y79, z79⟩, st79⟩ := X77.virtualBack hx (y := (⟨"com/example/interfold/interfold/fidl/Token", "kind", "()Lcom/example/interfold/interfold/fidl/Token$Kind;"⟩ : MethodName)) (z := (⟨"com/example/interfold/interfold/fidl/Token", "kind", "()Lcom/example/interfold/interfold/fidl/Token$Kind;"⟩ : MethodName)) hown (mvT hZ (hw _ (List.mem_of_getElem? (i := 29) rfl))) (mvT hZ (hw _ (List.mem_of_getElem? (i := 30) rfl))) (notFace_of_selects (args := #[]) (mvT hZ (hw _ (List.mem_of_getElem? (i := 32) rfl)))) (mvT hZ (hw _ (List.mem_of_getElem? (i := 32) rfl))) (mvT hZ (hw _ (List.mem_of_getElem? (i := 31) rfl))) (by decide) (backOf (W := 0) (own_kind l Z a0 hw [] (b72) (kd_1) T77.heap n0 (O0.keep K78 all0) (po77_1)) hZ (hw _ (List.mem_of_getElem? (i := 33) rfl)) (hw _ (List.mem_of_getElem? (i := 9) rfl)) (by decide) (by decide)) qa79 qc79 (g := (mkF m 149 #[.val (.int j0), .val (.int j1), .val (.int j2), .val (.int j3), .val (.int j4), .val (.int j5), .val (.ref kd_1), .val (.ref kd_2), .val (.int c0), .val (.int c1), .val (.int c2), .val sv10, .val sv40, .val (.ref b72), .unset, .unset] [(.ref b72)])) rfl (by rw [hml]; rfl) (Steps.refl _) (argsL := []) (rest := []) (lenOf own_pd4 rfl) rfl (by show 2 * 0 + _ ≤ _; exact Nat.le_of_eq rfl) (hb hby at_149) (fun _ _ => ⟨rfl, rfl, (by decide : 7 + 0 ≤ _), (by decide : 18 + 0 ≤ _)⟩)
  dsimp only [Pt.U, Pt.locs, Pt.cells, Pt.slots] at X79 l79 y79 z79 st79 hQ79
  subst l79 y79 z79
  obtain ⟨rfl, Nq79, hh79⟩ := hQ79
  have N79 := Fr.app N77 Nq79
  obtain ⟨cq80, kq80, qa80, qb80, qc80⟩ := isOf hZ hh79 po77_0
  obtain ⟨_, _, ⟨T80, L80, k80, n80⟩, -, X80, ⟨Lc80, hQ80, l80, y80, z80⟩, st80⟩ := X79.virtualBack hx (y := (⟨"com/example/interfold/interfold/fidl/Token", "start", "()I"⟩ : MethodName)) (z := (⟨"com/example/interfold/interfold/fidl/Token", "start", "()I"⟩ : MethodName)) hown (mvT hZ (hw _ (List.mem_of_getElem? (i := 34) rfl))) (mvT hZ (hw _ (List.mem_of_getElem? (i := 35) rfl))) (notFace_of_selects (args := #[]) (mvT hZ (hw _ (List.mem_of_getElem? (i := 37) rfl)))) (mvT hZ (hw _ (List.mem_of_getElem? (i := 37) rfl))) (mvT hZ (hw _ (List.mem_of_getElem? (i := 36) rfl))) (by decide) (backOf (W := 0) (own_start l Z a0 hw [] (b72) (j1) T77.heap n0 (O0.keep K78 all0) (po77_2)) hZ (hw _ (List.mem_of_getElem? (i := 38) rfl)) (hw _ (List.mem_of_getElem? (i := 9) rfl)) (by decide) (by decide)) qa80 qc80 (g := (mkF m 159 #[.val (.int j0), .val (.int j1), .val (.int j2), .val (.int j3), .val (.int j4), .val (.int j5), .val (.ref kd_1), .val (.ref kd_2), .val (.int c0), .val (.int c1), .val (.int c2), .val sv10, .val sv40, .val (.ref b72), .unset, .unset] [(.ref b72)])) rfl (by rw [hml]; rfl) (Steps.refl _) (argsL := []) (rest := []) (lenOf own_pd5 rfl) rfl (by show 2 * 0 + _ ≤ _; exact Nat.le_of_eq rfl) (hb hby at_159) (fun _ _ => ⟨rfl, hh79, (by decide : 7 + 0 ≤ _), (by decide : 18 + 0 ≤ _)⟩)
  dsimp only [Pt.U, Pt.locs, Pt.cells, Pt.slots] at X80 l80 y80 z80 st80 hQ80
  subst l80 y80 z80
  obtain ⟨rfl, Nq80, hh80⟩ := hQ80
  have N80 := Fr.app N79 Nq80
  obtain ⟨cq81, kq81, qa81, qb81, qc81⟩ := isOf hZ hh80 po77_0
  obtain ⟨_, _, ⟨T81, L81, k81, n81⟩, -, X81, ⟨Lc81, hQ81, l81, y81, z81⟩, st81⟩ := X80.virtualBack hx (y := (⟨"com/example/interfold/interfold/fidl/Token", "end", "()I"⟩ : MethodName)) (z := (⟨"com/example/interfold/interfold/fidl/Token", "end", "()I"⟩ : MethodName)) hown (mvT hZ (hw _ (List.mem_of_getElem? (i := 39) rfl))) (mvT hZ (hw _ (List.mem_of_getElem? (i := 40) rfl))) (notFace_of_selects (args := #[]) (mvT hZ (hw _ (List.mem_of_getElem? (i := 42) rfl)))) (mvT hZ (hw _ (List.mem_of_getElem? (i := 42) rfl))) (mvT hZ (hw _ (List.mem_of_getElem? (i := 41) rfl))) (by decide) (backOf (W := 0) (own_endd l Z a0 hw [] (b72) (j2) T77.heap n0 (O0.keep K78 all0) (po77_3)) hZ (hw _ (List.mem_of_getElem? (i := 43) rfl)) (hw _ (List.mem_of_getElem? (i := 9) rfl)) (by decide) (by decide)) qa81 qc81 (g := (mkF m 168 #[.val (.int j0), .val (.int j1), .val (.int j2), .val (.int j3), .val (.int j4), .val (.int j5), .val (.ref kd_1), .val (.ref kd_2), .val (.int c0), .val (.int c1), .val (.int c2), .val sv10, .val sv40, .val (.ref b72), .unset, .unset] [(.ref b72)])) rfl (by rw [hml]; rfl) (Steps.refl _) (argsL := []) (rest := []) (lenOf own_pd5 rfl) rfl (by show 2 * 0 + _ ≤ _; exact Nat.le_of_eq rfl) (hb hby at_168) (fun _ _ => ⟨rfl, hh80, (by decide : 7 + 0 ≤ _), (by decide : 18 + 0 ≤ _)⟩)
  dsimp only [Pt.U, Pt.locs, Pt.cells, Pt.slots] at X81 l81 y81 z81 st81 hQ81
  subst l81 y81 z81
  obtain ⟨rfl, Nq81, hh81⟩ := hQ81
  have N81 := Fr.app N80 Nq81
  obtain ⟨cq82, kq82, qa82, qb82, qc82⟩ := isOf hZ hh81 po77_0
  obtain ⟨_, _, ⟨T82, L82, k82, n82⟩, -, X82, ⟨Lc82, hQ82, l82, y82, z82⟩, st82⟩ := X81.virtualBack hx (y := (⟨"com/example/interfold/interfold/fidl/Token", "value", "()Ljava/lang/String;"⟩ : MethodName)) (z := (⟨"com/example/interfold/interfold/fidl/Token", "value", "()Ljava/lang/String;"⟩ : MethodName)) hown (mvT hZ (hw _ (List.mem_of_getElem? (i := 44) rfl))) (mvT hZ (hw _ (List.mem_of_getElem? (i := 45) rfl))) (notFace_of_selects (args := #[]) (mvT hZ (hw _ (List.mem_of_getElem? (i := 47) rfl)))) (mvT hZ (hw _ (List.mem_of_getElem? (i := 47) rfl))) (mvT hZ (hw _ (List.mem_of_getElem? (i := 46) rfl))) (by decide) (backOf (W := 0) (own_value l Z a0 hw [] (b72) (sv10) T77.heap n0 (O0.keep K78 all0) (hs10) (po77_4)) hZ (hw _ (List.mem_of_getElem? (i := 48) rfl)) (hw _ (List.mem_of_getElem? (i := 9) rfl)) (by decide) (by decide)) qa82 qc82 (g := (mkF m 177 #[.val (.int j0), .val (.int j1), .val (.int j2), .val (.int j3), .val (.int j4), .val (.int j5), .val (.ref kd_1), .val (.ref kd_2), .val (.int c0), .val (.int c1), .val (.int c2), .val sv10, .val sv40, .val (.ref b72), .unset, .unset] [(.ref b72)])) rfl (by rw [hml]; rfl) (Steps.refl _) (argsL := []) (rest := []) (lenOf own_pd6 rfl) rfl (by show 2 * 0 + _ ≤ _; exact Nat.le_of_eq rfl) (hb hby at_177) (fun _ _ => ⟨rfl, hh81, (by decide : 7 + 0 ≤ _), (by decide : 18 + 0 ≤ _)⟩)
  dsimp only [Pt.U, Pt.locs, Pt.cells, Pt.slots] at X82 l82 y82 z82 st82 hQ82
  subst l82 y82 z82
  obtain ⟨rfl, Nq82, hh82⟩ := hQ82
  have N82 := Fr.app N81 Nq82
  obtain ⟨cq83, kq83, qa83, qb83, qc83⟩ := isOf hZ hh82 po77_0
  obtain ⟨_, _, ⟨T83, L83, k83, n83⟩, -, X83, ⟨Lc83, hQ83, l83, y83, z83⟩, st83⟩ := X82.virtualBack hx (y := (⟨"com/example/interfold/interfold/fidl/Token", "set", "(Lcom/example/interfold/interfold/fidl/Token$Kind;IILjava/lang/String;)V"⟩ : MethodName)) (z := (⟨"com/example/interfold/interfold/fidl/Token", "set", "(Lcom/example/interfold/interfold/fidl/Token$Kind;IILjava/lang/String;)V"⟩ : MethodName)) hown (mvT hZ (hw _ (List.mem_of_getElem? (i := 16) rfl))) (mvT hZ (hw _ (List.mem_of_getElem? (i := 17) rfl))) (notFace_of_selects (args := #[]) (mvT hZ (hw _ (List.mem_of_getElem? (i := 19) rfl)))) (mvT hZ (hw _ (List.mem_of_getElem? (i := 19) rfl))) (mvT hZ (hw _ (List.mem_of_getElem? (i := 18) rfl))) (by decide) (backOf (W := 0) (own_set l Z a0 hw [] (b72) (kd_2) (j3) (j4) (sv40) ((.ref kd_1)) ((.int j1)) ((.int j2)) (sv10) T77.heap n0 (O0.keep K78 all0) (hs40) (po77_0) (g73) (po77_1) (po77_2) (po77_3) (po77_4)) hZ (hw _ (List.mem_of_getElem? (i := 20) rfl)) (hw _ (List.mem_of_getElem? (i := 9) rfl)) (by decide) (by decide)) qa83 qc83 (g := (mkF m 201 #[.val (.int j0), .val (.int j1), .val (.int j2), .val (.int j3), .val (.int j4), .val (.int j5), .val (.ref kd_1), .val (.ref kd_2), .val (.int c0), .val (.int c1), .val (.int c2), .val sv10, .val sv40, .val (.ref b72), .val (.int (1 : Int32)), .unset] [sv40, (.int j4), (.int j3), (.ref kd_2), (.ref b72)])) rfl (by rw [hml]; rfl) (Steps.refl _) (argsL := [(.ref kd_2), (.int j3), (.int j4), sv40]) (rest := []) (lenOf own_pd3 rfl) rfl (by show 2 * 0 + _ ≤ _; exact Nat.le_of_eq rfl) (hb hby at_201) (fun _ _ => ⟨rfl, hh82, (by decide : 7 + 0 ≤ _), (by decide : 18 + 0 ≤ _)⟩)
  dsimp only [Pt.U, Pt.locs, Pt.cells, Pt.slots] at X83 l83 y83 z83 st83 hQ83
  subst l83 y83 z83
  obtain ⟨rfl, Nq83, Kq83, po83_0, po83_1, po83_2, po83_3, po83_4⟩ := hQ83
  have N83 := Fr.app N82 Nq83
  have K84 : Keep h0 T83.heap [] := K78.trans Kq83 (allS (Or.inr b74) all0)
  obtain ⟨cq85, kq85, qa85, qb85, qc85⟩ := isOf hZ rfl po83_0
  obtain ⟨_, _, ⟨T85, L85, k85, n85⟩, -, X85, ⟨Lc85, hQ85, l85, y85, z85⟩, st85⟩ := X83.virtualBack hx (y := (⟨"com/example/interfold/interfold/fidl/Token", "kind", "()Lcom/example/interfold/interfold/fidl/Token$Kind;"⟩ : MethodName)) (z := (⟨"com/example/interfold/interfold/fidl/Token", "kind", "()Lcom/example/interfold/interfold/fidl/Token$Kind;"⟩ : MethodName)) hown (mvT hZ (hw _ (List.mem_of_getElem? (i := 29) rfl))) (mvT hZ (hw _ (List.mem_of_getElem? (i := 30) rfl))) (notFace_of_selects (args := #[]) (mvT hZ (hw _ (List.mem_of_getElem? (i := 32) rfl)))) (mvT hZ (hw _ (List.mem_of_getElem? (i := 32) rfl))) (mvT hZ (hw _ (List.mem_of_getElem? (i := 31) rfl))) (by decide) (backOf (W := 0) (own_kind l Z a0 hw [] (b72) (kd_2) T83.heap n0 (O0.keep K84 all0) (po83_1)) hZ (hw _ (List.mem_of_getElem? (i := 33) rfl)) (hw _ (List.mem_of_getElem? (i := 9) rfl)) (by decide) (by decide)) qa85 qc85 (g := (mkF m 206 #[.val (.int j0), .val (.int j1), .val (.int j2), .val (.int j3), .val (.int j4), .val (.int j5), .val (.ref kd_1), .val (.ref kd_2), .val (.int c0), .val (.int c1), .val (.int c2), .val sv10, .val sv40, .val (.ref b72), .val (.int (1 : Int32)), .unset] [(.ref b72)])) rfl (by rw [hml]; rfl) (Steps.refl _) (argsL := []) (rest := []) (lenOf own_pd4 rfl) rfl (by show 2 * 0 + _ ≤ _; exact Nat.le_of_eq rfl) (hb hby at_206) (fun _ _ => ⟨rfl, rfl, (by decide : 7 + 0 ≤ _), (by decide : 18 + 0 ≤ _)⟩)
  dsimp only [Pt.U, Pt.locs, Pt.cells, Pt.slots] at X85 l85 y85 z85 st85 hQ85
  subst l85 y85 z85
  obtain ⟨rfl, Nq85, hh85⟩ := hQ85
  have N85 := Fr.app N83 Nq85
  obtain ⟨cq86, kq86, qa86, qb86, qc86⟩ := isOf hZ hh85 po83_0
  obtain ⟨_, _, ⟨T86, L86, k86, n86⟩, -, X86, ⟨Lc86, hQ86, l86, y86, z86⟩, st86⟩ := X85.virtualBack hx (y := (⟨"com/example/interfold/interfold/fidl/Token", "start", "()I"⟩ : MethodName)) (z := (⟨"com/example/interfold/interfold/fidl/Token", "start", "()I"⟩ : MethodName)) hown (mvT hZ (hw _ (List.mem_of_getElem? (i := 34) rfl))) (mvT hZ (hw _ (List.mem_of_getElem? (i := 35) rfl))) (notFace_of_selects (args := #[]) (mvT hZ (hw _ (List.mem_of_getElem? (i := 37) rfl)))) (mvT hZ (hw _ (List.mem_of_getElem? (i := 37) rfl))) (mvT hZ (hw _ (List.mem_of_getElem? (i := 36) rfl))) (by decide) (backOf (W := 0) (own_start l Z a0 hw [] (b72) (j3) T83.heap n0 (O0.keep K84 all0) (po83_2)) hZ (hw _ (List.mem_of_getElem? (i := 38) rfl)) (hw _ (List.mem_of_getElem? (i := 9) rfl)) (by decide) (by decide)) qa86 qc86 (g := (mkF m 216 #[.val (.int j0), .val (.int j1), .val (.int j2), .val (.int j3), .val (.int j4), .val (.int j5), .val (.ref kd_1), .val (.ref kd_2), .val (.int c0), .val (.int c1), .val (.int c2), .val sv10, .val sv40, .val (.ref b72), .val (.int (1 : Int32)), .unset] [(.ref b72)])) rfl (by rw [hml]; rfl) (Steps.refl _) (argsL := []) (rest := []) (lenOf own_pd5 rfl) rfl (by show 2 * 0 + _ ≤ _; exact Nat.le_of_eq rfl) (hb hby at_216) (fun _ _ => ⟨rfl, hh85, (by decide : 7 + 0 ≤ _), (by decide : 18 + 0 ≤ _)⟩)
  dsimp only [Pt.U, Pt.locs, Pt.cells, Pt.slots] at X86 l86 y86 z86 st86 hQ86
  subst l86 y86 z86
  obtain ⟨rfl, Nq86, hh86⟩ := hQ86
  have N86 := Fr.app N85 Nq86
  obtain ⟨cq87, kq87, qa87, qb87, qc87⟩ := isOf hZ hh86 po83_0
  obtain ⟨_, _, ⟨T87, L87, k87, n87⟩, -, X87, ⟨Lc87, hQ87, l87, y87, z87⟩, st87⟩ := X86.virtualBack hx (y := (⟨"com/example/interfold/interfold/fidl/Token", "end", "()I"⟩ : MethodName)) (z := (⟨"com/example/interfold/interfold/fidl/Token", "end", "()I"⟩ : MethodName)) hown (mvT hZ (hw _ (List.mem_of_getElem? (i := 39) rfl))) (mvT hZ (hw _ (List.mem_of_getElem? (i := 40) rfl))) (notFace_of_selects (args := #[]) (mvT hZ (hw _ (List.mem_of_getElem? (i := 42) rfl)))) (mvT hZ (hw _ (List.mem_of_getElem? (i := 42) rfl))) (mvT hZ (hw _ (List.mem_of_getElem? (i := 41) rfl))) (by decide) (backOf (W := 0) (own_endd l Z a0 hw [] (b72) (j4) T83.heap n0 (O0.keep K84 all0) (po83_3)) hZ (hw _ (List.mem_of_getElem? (i := 43) rfl)) (hw _ (List.mem_of_getElem? (i := 9) rfl)) (by decide) (by decide)) qa87 qc87 (g := (mkF m 225 #[.val (.int j0), .val (.int j1), .val (.int j2), .val (.int j3), .val (.int j4), .val (.int j5), .val (.ref kd_1), .val (.ref kd_2), .val (.int c0), .val (.int c1), .val (.int c2), .val sv10, .val sv40, .val (.ref b72), .val (.int (1 : Int32)), .unset] [(.ref b72)])) rfl (by rw [hml]; rfl) (Steps.refl _) (argsL := []) (rest := []) (lenOf own_pd5 rfl) rfl (by show 2 * 0 + _ ≤ _; exact Nat.le_of_eq rfl) (hb hby at_225) (fun _ _ => ⟨rfl, hh86, (by decide : 7 + 0 ≤ _), (by decide : 18 + 0 ≤ _)⟩)
  dsimp only [Pt.U, Pt.locs, Pt.cells, Pt.slots] at X87 l87 y87 z87 st87 hQ87
  subst l87 y87 z87
  obtain ⟨rfl, Nq87, hh87⟩ := hQ87
  have N87 := Fr.app N86 Nq87
  obtain ⟨cq88, kq88, qa88, qb88, qc88⟩ := isOf hZ hh87 po83_0
  obtain ⟨_, _, ⟨T88, L88, k88, n88⟩, -, X88, ⟨Lc88, hQ88, l88, y88, z88⟩, st88⟩ := X87.virtualBack hx (y := (⟨"com/example/interfold/interfold/fidl/Token", "value", "()Ljava/lang/String;"⟩ : MethodName)) (z := (⟨"com/example/interfold/interfold/fidl/Token", "value", "()Ljava/lang/String;"⟩ : MethodName)) hown (mvT hZ (hw _ (List.mem_of_getElem? (i := 44) rfl))) (mvT hZ (hw _ (List.mem_of_getElem? (i := 45) rfl))) (notFace_of_selects (args := #[]) (mvT hZ (hw _ (List.mem_of_getElem? (i := 47) rfl)))) (mvT hZ (hw _ (List.mem_of_getElem? (i := 47) rfl))) (mvT hZ (hw _ (List.mem_of_getElem? (i := 46) rfl))) (by decide) (backOf (W := 0) (own_value l Z a0 hw [] (b72) (sv40) T83.heap n0 (O0.keep K84 all0) (hs40) (po83_4)) hZ (hw _ (List.mem_of_getElem? (i := 48) rfl)) (hw _ (List.mem_of_getElem? (i := 9) rfl)) (by decide) (by decide)) qa88 qc88 (g := (mkF m 235 #[.val (.int j0), .val (.int j1), .val (.int j2), .val (.int j3), .val (.int j4), .val (.int j5), .val (.ref kd_1), .val (.ref kd_2), .val (.int c0), .val (.int c1), .val (.int c2), .val sv10, .val sv40, .val (.ref b72), .val (.int (1 : Int32)), .unset] [(.ref b72)])) rfl (by rw [hml]; rfl) (Steps.refl _) (argsL := []) (rest := []) (lenOf own_pd6 rfl) rfl (by show 2 * 0 + _ ≤ _; exact Nat.le_of_eq rfl) (hb hby at_235) (fun _ _ => ⟨rfl, hh87, (by decide : 7 + 0 ≤ _), (by decide : 18 + 0 ≤ _)⟩)
  dsimp only [Pt.U, Pt.locs, Pt.cells, Pt.slots] at X88 l88 y88 z88 st88 hQ88
  subst l88 y88 z88
  obtain ⟨rfl, Nq88, hh88⟩ := hQ88
  have N88 := Fr.app N87 Nq88
  obtain ⟨fs, hr, hrun, hended, hW, hsame⟩ := X88.leave (v := some (.int (nar .boolean (1 : Int32)))) (fun h => by rw [Bd.returns] at h; cases h)
  refine ⟨_, _, r40 _ ?_, hrun, hended, _, _, rfl, ?_, ⟨_, rfl⟩, hW, hsame.mono (by decide) (by decide)⟩
  · show Steps p.tables e below (T40.setTop (mkF m 125 #[.val (.int j0), .val (.int j1), .val (.int j2), .val (.int j3), .val (.int j4), .val (.int j5), .val (.ref kd_1), .val (.ref kd_2), .val (.int c0), .val (.int c1), .val (.int c2), .val sv10, .unset, .unset, .unset, .unset] [sv40])) _
    refine XS.astore X40.here hx rfl (hb hby at_125) rfl hs40 (l' := #[.val (.int j0), .val (.int j1), .val (.int j2), .val (.int j3), .val (.int j4), .val (.int j5), .val (.ref kd_1), .val (.ref kd_2), .val (.int c0), .val (.int c1), .val (.int c2), .val sv10, .val sv40, .unset, .unset, .unset]) (XS.store1 rfl (Or.inl rfl) (own_cat hs40)) ?_
    show Steps p.tables e below (T40.setTop (mkF m 127 #[.val (.int j0), .val (.int j1), .val (.int j2), .val (.int j3), .val (.int j4), .val (.int j5), .val (.ref kd_1), .val (.ref kd_2), .val (.int c0), .val (.int c1), .val (.int c2), .val sv10, .val sv40, .unset, .unset, .unset] [])) _
    refine st72 _ ?_
    show Steps p.tables e below (T72.setTop (mkF m 130 #[.val (.int j0), .val (.int j1), .val (.int j2), .val (.int j3), .val (.int j4), .val (.int j5), .val (.ref kd_1), .val (.ref kd_2), .val (.int c0), .val (.int c1), .val (.int c2), .val sv10, .val sv40, .unset, .unset, .unset] [(.ref b72)])) _
    refine XS.dup X72.here hx rfl (hb hby at_130) rfl rfl ?_
    show Steps p.tables e below (T72.setTop (mkF m 131 #[.val (.int j0), .val (.int j1), .val (.int j2), .val (.int j3), .val (.int j4), .val (.int j5), .val (.ref kd_1), .val (.ref kd_2), .val (.int c0), .val (.int c1), .val (.int c2), .val sv10, .val sv40, .unset, .unset, .unset] [(.ref b72), (.ref b72)])) _
    refine st76.trans ?_
    show Steps p.tables e below (T76.setTop (mkF m 134 #[.val (.int j0), .val (.int j1), .val (.int j2), .val (.int j3), .val (.int j4), .val (.int j5), .val (.ref kd_1), .val (.ref kd_2), .val (.int c0), .val (.int c1), .val (.int c2), .val sv10, .val sv40, .unset, .unset, .unset] [(.ref b72)])) _
    refine XS.astore X76.here hx rfl (hb hby at_134) rfl rfl (l' := #[.val (.int j0), .val (.int j1), .val (.int j2), .val (.int j3), .val (.int j4), .val (.int j5), .val (.ref kd_1), .val (.ref kd_2), .val (.int c0), .val (.int c1), .val (.int c2), .val sv10, .val sv40, .val (.ref b72), .unset, .unset]) rfl ?_
    show Steps p.tables e below (T76.setTop (mkF m 136 #[.val (.int j0), .val (.int j1), .val (.int j2), .val (.int j3), .val (.int j4), .val (.int j5), .val (.ref kd_1), .val (.ref kd_2), .val (.int c0), .val (.int c1), .val (.int c2), .val sv10, .val sv40, .val (.ref b72), .unset, .unset] [])) _
    refine XS.aload X76.here hx rfl (hb hby at_136) rfl rfl ?_
    show Steps p.tables e below (T76.setTop (mkF m 138 #[.val (.int j0), .val (.int j1), .val (.int j2), .val (.int j3), .val (.int j4), .val (.int j5), .val (.ref kd_1), .val (.ref kd_2), .val (.int c0), .val (.int c1), .val (.int c2), .val sv10, .val sv40, .val (.ref b72), .unset, .unset] [(.ref b72)])) _
    refine XS.aload X76.here hx rfl (hb hby at_138) rfl rfl ?_
    show Steps p.tables e below (T76.setTop (mkF m 140 #[.val (.int j0), .val (.int j1), .val (.int j2), .val (.int j3), .val (.int j4), .val (.int j5), .val (.ref kd_1), .val (.ref kd_2), .val (.int c0), .val (.int c1), .val (.int c2), .val sv10, .val sv40, .val (.ref b72), .unset, .unset] [(.ref kd_1), (.ref b72)])) _
    refine XS.iloadN X76.here hx rfl (hb hby at_140) rfl ?_
    show Steps p.tables e below (T76.setTop (mkF m 141 #[.val (.int j0), .val (.int j1), .val (.int j2), .val (.int j3), .val (.int j4), .val (.int j5), .val (.ref kd_1), .val (.ref kd_2), .val (.int c0), .val (.int c1), .val (.int c2), .val sv10, .val sv40, .val (.ref b72), .unset, .unset] [(.int j1), (.ref kd_1), (.ref b72)])) _
    refine XS.iloadN X76.here hx rfl (hb hby at_141) rfl ?_
    show Steps p.tables e below (T76.setTop (mkF m 142 #[.val (.int j0), .val (.int j1), .val (.int j2), .val (.int j3), .val (.int j4), .val (.int j5), .val (.ref kd_1), .val (.ref kd_2), .val (.int c0), .val (.int c1), .val (.int c2), .val sv10, .val sv40, .val (.ref b72), .unset, .unset] [(.int j2), (.int j1), (.ref kd_1), (.ref b72)])) _
    refine XS.aload X76.here hx rfl (hb hby at_142) rfl hs10 ?_
    show Steps p.tables e below (T76.setTop (mkF m 144 #[.val (.int j0), .val (.int j1), .val (.int j2), .val (.int j3), .val (.int j4), .val (.int j5), .val (.ref kd_1), .val (.ref kd_2), .val (.int c0), .val (.int c1), .val (.int c2), .val sv10, .val sv40, .val (.ref b72), .unset, .unset] [sv10, (.int j2), (.int j1), (.ref kd_1), (.ref b72)])) _
    refine st77.trans ?_
    show Steps p.tables e below (T77.setTop (mkF m 147 #[.val (.int j0), .val (.int j1), .val (.int j2), .val (.int j3), .val (.int j4), .val (.int j5), .val (.ref kd_1), .val (.ref kd_2), .val (.int c0), .val (.int c1), .val (.int c2), .val sv10, .val sv40, .val (.ref b72), .unset, .unset] [])) _
    refine XS.aload X77.here hx rfl (hb hby at_147) rfl rfl ?_
    show Steps p.tables e below (T77.setTop (mkF m 149 #[.val (.int j0), .val (.int j1), .val (.int j2), .val (.int j3), .val (.int j4), .val (.int j5), .val (.ref kd_1), .val (.ref kd_2), .val (.int c0), .val (.int c1), .val (.int c2), .val sv10, .val sv40, .val (.ref b72), .unset, .unset] [(.ref b72)])) _
    refine st79.trans ?_
    show Steps p.tables e below (T79.setTop (mkF m 152 #[.val (.int j0), .val (.int j1), .val (.int j2), .val (.int j3), .val (.int j4), .val (.int j5), .val (.ref kd_1), .val (.ref kd_2), .val (.int c0), .val (.int c1), .val (.int c2), .val sv10, .val sv40, .val (.ref b72), .unset, .unset] [(.ref kd_1)])) _
    refine XS.aload X79.here hx rfl (hb hby at_152) rfl rfl ?_
    show Steps p.tables e below (T79.setTop (mkF m 154 #[.val (.int j0), .val (.int j1), .val (.int j2), .val (.int j3), .val (.int j4), .val (.int j5), .val (.ref kd_1), .val (.ref kd_2), .val (.int c0), .val (.int c1), .val (.int c2), .val sv10, .val sv40, .val (.ref b72), .unset, .unset] [(.ref kd_1), (.ref kd_1)])) _
    refine Jvm.RoadKit.acmp (g := (mkF m 154 #[.val (.int j0), .val (.int j1), .val (.int j2), .val (.int j3), .val (.int j4), .val (.int j5), .val (.ref kd_1), .val (.ref kd_2), .val (.int c0), .val (.int c1), .val (.int c2), .val sv10, .val sv40, .val (.ref b72), .unset, .unset] [(.ref kd_1), (.ref kd_1)])) X79 hx rfl rfl rfl (pc0 := 154) (pc' := 157) (same := true) rfl (hb hby at_154) rfl (decide_eq_true (congrArg Value.ref rfl)) (by decide) (by decide) ?_
    show Steps p.tables e below (T79.setTop (mkF m 157 #[.val (.int j0), .val (.int j1), .val (.int j2), .val (.int j3), .val (.int j4), .val (.int j5), .val (.ref kd_1), .val (.ref kd_2), .val (.int c0), .val (.int c1), .val (.int c2), .val sv10, .val sv40, .val (.ref b72), .unset, .unset] [])) _
    refine XS.aload X79.here hx rfl (hb hby at_157) rfl rfl ?_
    show Steps p.tables e below (T79.setTop (mkF m 159 #[.val (.int j0), .val (.int j1), .val (.int j2), .val (.int j3), .val (.int j4), .val (.int j5), .val (.ref kd_1), .val (.ref kd_2), .val (.int c0), .val (.int c1), .val (.int c2), .val sv10, .val sv40, .val (.ref b72), .unset, .unset] [(.ref b72)])) _
    refine st80.trans ?_
    show Steps p.tables e below (T80.setTop (mkF m 162 #[.val (.int j0), .val (.int j1), .val (.int j2), .val (.int j3), .val (.int j4), .val (.int j5), .val (.ref kd_1), .val (.ref kd_2), .val (.int c0), .val (.int c1), .val (.int c2), .val sv10, .val sv40, .val (.ref b72), .unset, .unset] [(.int j1)])) _
    refine XS.iloadN X80.here hx rfl (hb hby at_162) rfl ?_
    show Steps p.tables e below (T80.setTop (mkF m 163 #[.val (.int j0), .val (.int j1), .val (.int j2), .val (.int j3), .val (.int j4), .val (.int j5), .val (.ref kd_1), .val (.ref kd_2), .val (.int c0), .val (.int c1), .val (.int c2), .val sv10, .val sv40, .val (.ref b72), .unset, .unset] [(.int j1), (.int j1)])) _
    refine XS.icmpNo X80.here hx rfl (hb hby at_163) rfl (teq rfl).2 ?_
    show Steps p.tables e below (T80.setTop (mkF m 166 #[.val (.int j0), .val (.int j1), .val (.int j2), .val (.int j3), .val (.int j4), .val (.int j5), .val (.ref kd_1), .val (.ref kd_2), .val (.int c0), .val (.int c1), .val (.int c2), .val sv10, .val sv40, .val (.ref b72), .unset, .unset] [])) _
    refine XS.aload X80.here hx rfl (hb hby at_166) rfl rfl ?_
    show Steps p.tables e below (T80.setTop (mkF m 168 #[.val (.int j0), .val (.int j1), .val (.int j2), .val (.int j3), .val (.int j4), .val (.int j5), .val (.ref kd_1), .val (.ref kd_2), .val (.int c0), .val (.int c1), .val (.int c2), .val sv10, .val sv40, .val (.ref b72), .unset, .unset] [(.ref b72)])) _
    refine st81.trans ?_
    show Steps p.tables e below (T81.setTop (mkF m 171 #[.val (.int j0), .val (.int j1), .val (.int j2), .val (.int j3), .val (.int j4), .val (.int j5), .val (.ref kd_1), .val (.ref kd_2), .val (.int c0), .val (.int c1), .val (.int c2), .val sv10, .val sv40, .val (.ref b72), .unset, .unset] [(.int j2)])) _
    refine XS.iloadN X81.here hx rfl (hb hby at_171) rfl ?_
    show Steps p.tables e below (T81.setTop (mkF m 172 #[.val (.int j0), .val (.int j1), .val (.int j2), .val (.int j3), .val (.int j4), .val (.int j5), .val (.ref kd_1), .val (.ref kd_2), .val (.int c0), .val (.int c1), .val (.int c2), .val sv10, .val sv40, .val (.ref b72), .unset, .unset] [(.int j2), (.int j2)])) _
    refine XS.icmpNo X81.here hx rfl (hb hby at_172) rfl (teq rfl).2 ?_
    show Steps p.tables e below (T81.setTop (mkF m 175 #[.val (.int j0), .val (.int j1), .val (.int j2), .val (.int j3), .val (.int j4), .val (.int j5), .val (.ref kd_1), .val (.ref kd_2), .val (.int c0), .val (.int c1), .val (.int c2), .val sv10, .val sv40, .val (.ref b72), .unset, .unset] [])) _
    refine XS.aload X81.here hx rfl (hb hby at_175) rfl rfl ?_
    show Steps p.tables e below (T81.setTop (mkF m 177 #[.val (.int j0), .val (.int j1), .val (.int j2), .val (.int j3), .val (.int j4), .val (.int j5), .val (.ref kd_1), .val (.ref kd_2), .val (.int c0), .val (.int c1), .val (.int c2), .val sv10, .val sv40, .val (.ref b72), .unset, .unset] [(.ref b72)])) _
    refine st82.trans ?_
    show Steps p.tables e below (T82.setTop (mkF m 180 #[.val (.int j0), .val (.int j1), .val (.int j2), .val (.int j3), .val (.int j4), .val (.int j5), .val (.ref kd_1), .val (.ref kd_2), .val (.int c0), .val (.int c1), .val (.int c2), .val sv10, .val sv40, .val (.ref b72), .unset, .unset] [sv10])) _
    refine XS.aload X82.here hx rfl (hb hby at_180) rfl hs10 ?_
    show Steps p.tables e below (T82.setTop (mkF m 182 #[.val (.int j0), .val (.int j1), .val (.int j2), .val (.int j3), .val (.int j4), .val (.int j5), .val (.ref kd_1), .val (.ref kd_2), .val (.int c0), .val (.int c1), .val (.int c2), .val sv10, .val sv40, .val (.ref b72), .unset, .unset] [sv10, sv10])) _
    refine Jvm.RoadKit.acmp (g := (mkF m 182 #[.val (.int j0), .val (.int j1), .val (.int j2), .val (.int j3), .val (.int j4), .val (.int j5), .val (.ref kd_1), .val (.ref kd_2), .val (.int c0), .val (.int c1), .val (.int c2), .val sv10, .val sv40, .val (.ref b72), .unset, .unset] [sv10, sv10])) X82 hx rfl hs10 hs10 (pc0 := 182) (pc' := 185) (same := true) rfl (hb hby at_182) rfl (decide_eq_true rfl) (by decide) (by decide) ?_
    show Steps p.tables e below (T82.setTop (mkF m 185 #[.val (.int j0), .val (.int j1), .val (.int j2), .val (.int j3), .val (.int j4), .val (.int j5), .val (.ref kd_1), .val (.ref kd_2), .val (.int c0), .val (.int c1), .val (.int c2), .val sv10, .val sv40, .val (.ref b72), .unset, .unset] [])) _
    refine XS.iconst X82.here hx rfl (hb hby at_185) ?_
    show Steps p.tables e below (T82.setTop (mkF m 186 #[.val (.int j0), .val (.int j1), .val (.int j2), .val (.int j3), .val (.int j4), .val (.int j5), .val (.ref kd_1), .val (.ref kd_2), .val (.int c0), .val (.int c1), .val (.int c2), .val sv10, .val sv40, .val (.ref b72), .unset, .unset] [(.int (1 : Int32))])) _
    refine XS.goto X82.here hx rfl (pc0 := 186) (pc' := 190) rfl (hb hby at_186) (by decide) (by decide) ?_
    show Steps p.tables e below (T82.setTop (mkF m 190 #[.val (.int j0), .val (.int j1), .val (.int j2), .val (.int j3), .val (.int j4), .val (.int j5), .val (.ref kd_1), .val (.ref kd_2), .val (.int c0), .val (.int c1), .val (.int c2), .val sv10, .val sv40, .val (.ref b72), .unset, .unset] [(.int (1 : Int32))])) _
    refine XS.istore X82.here hx rfl (hb hby at_190) rfl (l' := #[.val (.int j0), .val (.int j1), .val (.int j2), .val (.int j3), .val (.int j4), .val (.int j5), .val (.ref kd_1), .val (.ref kd_2), .val (.int c0), .val (.int c1), .val (.int c2), .val sv10, .val sv40, .val (.ref b72), .val (.int (1 : Int32)), .unset]) rfl ?_
    show Steps p.tables e below (T82.setTop (mkF m 192 #[.val (.int j0), .val (.int j1), .val (.int j2), .val (.int j3), .val (.int j4), .val (.int j5), .val (.ref kd_1), .val (.ref kd_2), .val (.int c0), .val (.int c1), .val (.int c2), .val sv10, .val sv40, .val (.ref b72), .val (.int (1 : Int32)), .unset] [])) _
    refine XS.aload X82.here hx rfl (hb hby at_192) rfl rfl ?_
    show Steps p.tables e below (T82.setTop (mkF m 194 #[.val (.int j0), .val (.int j1), .val (.int j2), .val (.int j3), .val (.int j4), .val (.int j5), .val (.ref kd_1), .val (.ref kd_2), .val (.int c0), .val (.int c1), .val (.int c2), .val sv10, .val sv40, .val (.ref b72), .val (.int (1 : Int32)), .unset] [(.ref b72)])) _
    refine XS.aload X82.here hx rfl (hb hby at_194) rfl rfl ?_
    show Steps p.tables e below (T82.setTop (mkF m 196 #[.val (.int j0), .val (.int j1), .val (.int j2), .val (.int j3), .val (.int j4), .val (.int j5), .val (.ref kd_1), .val (.ref kd_2), .val (.int c0), .val (.int c1), .val (.int c2), .val sv10, .val sv40, .val (.ref b72), .val (.int (1 : Int32)), .unset] [(.ref kd_2), (.ref b72)])) _
    refine XS.iloadN X82.here hx rfl (hb hby at_196) rfl ?_
    show Steps p.tables e below (T82.setTop (mkF m 197 #[.val (.int j0), .val (.int j1), .val (.int j2), .val (.int j3), .val (.int j4), .val (.int j5), .val (.ref kd_1), .val (.ref kd_2), .val (.int c0), .val (.int c1), .val (.int c2), .val sv10, .val sv40, .val (.ref b72), .val (.int (1 : Int32)), .unset] [(.int j3), (.ref kd_2), (.ref b72)])) _
    refine XS.iload X82.here hx rfl (hb hby at_197) rfl ?_
    show Steps p.tables e below (T82.setTop (mkF m 199 #[.val (.int j0), .val (.int j1), .val (.int j2), .val (.int j3), .val (.int j4), .val (.int j5), .val (.ref kd_1), .val (.ref kd_2), .val (.int c0), .val (.int c1), .val (.int c2), .val sv10, .val sv40, .val (.ref b72), .val (.int (1 : Int32)), .unset] [(.int j4), (.int j3), (.ref kd_2), (.ref b72)])) _
    refine XS.aload X82.here hx rfl (hb hby at_199) rfl hs40 ?_
    show Steps p.tables e below (T82.setTop (mkF m 201 #[.val (.int j0), .val (.int j1), .val (.int j2), .val (.int j3), .val (.int j4), .val (.int j5), .val (.ref kd_1), .val (.ref kd_2), .val (.int c0), .val (.int c1), .val (.int c2), .val sv10, .val sv40, .val (.ref b72), .val (.int (1 : Int32)), .unset] [sv40, (.int j4), (.int j3), (.ref kd_2), (.ref b72)])) _
    refine st83.trans ?_
    show Steps p.tables e below (T83.setTop (mkF m 204 #[.val (.int j0), .val (.int j1), .val (.int j2), .val (.int j3), .val (.int j4), .val (.int j5), .val (.ref kd_1), .val (.ref kd_2), .val (.int c0), .val (.int c1), .val (.int c2), .val sv10, .val sv40, .val (.ref b72), .val (.int (1 : Int32)), .unset] [])) _
    refine XS.aload X83.here hx rfl (hb hby at_204) rfl rfl ?_
    show Steps p.tables e below (T83.setTop (mkF m 206 #[.val (.int j0), .val (.int j1), .val (.int j2), .val (.int j3), .val (.int j4), .val (.int j5), .val (.ref kd_1), .val (.ref kd_2), .val (.int c0), .val (.int c1), .val (.int c2), .val sv10, .val sv40, .val (.ref b72), .val (.int (1 : Int32)), .unset] [(.ref b72)])) _
    refine st85.trans ?_
    show Steps p.tables e below (T85.setTop (mkF m 209 #[.val (.int j0), .val (.int j1), .val (.int j2), .val (.int j3), .val (.int j4), .val (.int j5), .val (.ref kd_1), .val (.ref kd_2), .val (.int c0), .val (.int c1), .val (.int c2), .val sv10, .val sv40, .val (.ref b72), .val (.int (1 : Int32)), .unset] [(.ref kd_2)])) _
    refine XS.aload X85.here hx rfl (hb hby at_209) rfl rfl ?_
    show Steps p.tables e below (T85.setTop (mkF m 211 #[.val (.int j0), .val (.int j1), .val (.int j2), .val (.int j3), .val (.int j4), .val (.int j5), .val (.ref kd_1), .val (.ref kd_2), .val (.int c0), .val (.int c1), .val (.int c2), .val sv10, .val sv40, .val (.ref b72), .val (.int (1 : Int32)), .unset] [(.ref kd_2), (.ref kd_2)])) _
    refine Jvm.RoadKit.acmp (g := (mkF m 211 #[.val (.int j0), .val (.int j1), .val (.int j2), .val (.int j3), .val (.int j4), .val (.int j5), .val (.ref kd_1), .val (.ref kd_2), .val (.int c0), .val (.int c1), .val (.int c2), .val sv10, .val sv40, .val (.ref b72), .val (.int (1 : Int32)), .unset] [(.ref kd_2), (.ref kd_2)])) X85 hx rfl rfl rfl (pc0 := 211) (pc' := 214) (same := true) rfl (hb hby at_211) rfl (decide_eq_true (congrArg Value.ref rfl)) (by decide) (by decide) ?_
    show Steps p.tables e below (T85.setTop (mkF m 214 #[.val (.int j0), .val (.int j1), .val (.int j2), .val (.int j3), .val (.int j4), .val (.int j5), .val (.ref kd_1), .val (.ref kd_2), .val (.int c0), .val (.int c1), .val (.int c2), .val sv10, .val sv40, .val (.ref b72), .val (.int (1 : Int32)), .unset] [])) _
    refine XS.aload X85.here hx rfl (hb hby at_214) rfl rfl ?_
    show Steps p.tables e below (T85.setTop (mkF m 216 #[.val (.int j0), .val (.int j1), .val (.int j2), .val (.int j3), .val (.int j4), .val (.int j5), .val (.ref kd_1), .val (.ref kd_2), .val (.int c0), .val (.int c1), .val (.int c2), .val sv10, .val sv40, .val (.ref b72), .val (.int (1 : Int32)), .unset] [(.ref b72)])) _
    refine st86.trans ?_
    show Steps p.tables e below (T86.setTop (mkF m 219 #[.val (.int j0), .val (.int j1), .val (.int j2), .val (.int j3), .val (.int j4), .val (.int j5), .val (.ref kd_1), .val (.ref kd_2), .val (.int c0), .val (.int c1), .val (.int c2), .val sv10, .val sv40, .val (.ref b72), .val (.int (1 : Int32)), .unset] [(.int j3)])) _
    refine XS.iloadN X86.here hx rfl (hb hby at_219) rfl ?_
    show Steps p.tables e below (T86.setTop (mkF m 220 #[.val (.int j0), .val (.int j1), .val (.int j2), .val (.int j3), .val (.int j4), .val (.int j5), .val (.ref kd_1), .val (.ref kd_2), .val (.int c0), .val (.int c1), .val (.int c2), .val sv10, .val sv40, .val (.ref b72), .val (.int (1 : Int32)), .unset] [(.int j3), (.int j3)])) _
    refine XS.icmpNo X86.here hx rfl (hb hby at_220) rfl (teq rfl).2 ?_
    show Steps p.tables e below (T86.setTop (mkF m 223 #[.val (.int j0), .val (.int j1), .val (.int j2), .val (.int j3), .val (.int j4), .val (.int j5), .val (.ref kd_1), .val (.ref kd_2), .val (.int c0), .val (.int c1), .val (.int c2), .val sv10, .val sv40, .val (.ref b72), .val (.int (1 : Int32)), .unset] [])) _
    refine XS.aload X86.here hx rfl (hb hby at_223) rfl rfl ?_
    show Steps p.tables e below (T86.setTop (mkF m 225 #[.val (.int j0), .val (.int j1), .val (.int j2), .val (.int j3), .val (.int j4), .val (.int j5), .val (.ref kd_1), .val (.ref kd_2), .val (.int c0), .val (.int c1), .val (.int c2), .val sv10, .val sv40, .val (.ref b72), .val (.int (1 : Int32)), .unset] [(.ref b72)])) _
    refine st87.trans ?_
    show Steps p.tables e below (T87.setTop (mkF m 228 #[.val (.int j0), .val (.int j1), .val (.int j2), .val (.int j3), .val (.int j4), .val (.int j5), .val (.ref kd_1), .val (.ref kd_2), .val (.int c0), .val (.int c1), .val (.int c2), .val sv10, .val sv40, .val (.ref b72), .val (.int (1 : Int32)), .unset] [(.int j4)])) _
    refine XS.iload X87.here hx rfl (hb hby at_228) rfl ?_
    show Steps p.tables e below (T87.setTop (mkF m 230 #[.val (.int j0), .val (.int j1), .val (.int j2), .val (.int j3), .val (.int j4), .val (.int j5), .val (.ref kd_1), .val (.ref kd_2), .val (.int c0), .val (.int c1), .val (.int c2), .val sv10, .val sv40, .val (.ref b72), .val (.int (1 : Int32)), .unset] [(.int j4), (.int j4)])) _
    refine XS.icmpNo X87.here hx rfl (hb hby at_230) rfl (teq rfl).2 ?_
    show Steps p.tables e below (T87.setTop (mkF m 233 #[.val (.int j0), .val (.int j1), .val (.int j2), .val (.int j3), .val (.int j4), .val (.int j5), .val (.ref kd_1), .val (.ref kd_2), .val (.int c0), .val (.int c1), .val (.int c2), .val sv10, .val sv40, .val (.ref b72), .val (.int (1 : Int32)), .unset] [])) _
    refine XS.aload X87.here hx rfl (hb hby at_233) rfl rfl ?_
    show Steps p.tables e below (T87.setTop (mkF m 235 #[.val (.int j0), .val (.int j1), .val (.int j2), .val (.int j3), .val (.int j4), .val (.int j5), .val (.ref kd_1), .val (.ref kd_2), .val (.int c0), .val (.int c1), .val (.int c2), .val sv10, .val sv40, .val (.ref b72), .val (.int (1 : Int32)), .unset] [(.ref b72)])) _
    refine st88.trans ?_
    show Steps p.tables e below (T88.setTop (mkF m 238 #[.val (.int j0), .val (.int j1), .val (.int j2), .val (.int j3), .val (.int j4), .val (.int j5), .val (.ref kd_1), .val (.ref kd_2), .val (.int c0), .val (.int c1), .val (.int c2), .val sv10, .val sv40, .val (.ref b72), .val (.int (1 : Int32)), .unset] [sv40])) _
    refine XS.aload X88.here hx rfl (hb hby at_238) rfl hs40 ?_
    show Steps p.tables e below (T88.setTop (mkF m 240 #[.val (.int j0), .val (.int j1), .val (.int j2), .val (.int j3), .val (.int j4), .val (.int j5), .val (.ref kd_1), .val (.ref kd_2), .val (.int c0), .val (.int c1), .val (.int c2), .val sv10, .val sv40, .val (.ref b72), .val (.int (1 : Int32)), .unset] [sv40, sv40])) _
    refine Jvm.RoadKit.acmp (g := (mkF m 240 #[.val (.int j0), .val (.int j1), .val (.int j2), .val (.int j3), .val (.int j4), .val (.int j5), .val (.ref kd_1), .val (.ref kd_2), .val (.int c0), .val (.int c1), .val (.int c2), .val sv10, .val sv40, .val (.ref b72), .val (.int (1 : Int32)), .unset] [sv40, sv40])) X88 hx rfl hs40 hs40 (pc0 := 240) (pc' := 243) (same := true) rfl (hb hby at_240) rfl (decide_eq_true rfl) (by decide) (by decide) ?_
    show Steps p.tables e below (T88.setTop (mkF m 243 #[.val (.int j0), .val (.int j1), .val (.int j2), .val (.int j3), .val (.int j4), .val (.int j5), .val (.ref kd_1), .val (.ref kd_2), .val (.int c0), .val (.int c1), .val (.int c2), .val sv10, .val sv40, .val (.ref b72), .val (.int (1 : Int32)), .unset] [])) _
    refine XS.iconst X88.here hx rfl (hb hby at_243) ?_
    show Steps p.tables e below (T88.setTop (mkF m 244 #[.val (.int j0), .val (.int j1), .val (.int j2), .val (.int j3), .val (.int j4), .val (.int j5), .val (.ref kd_1), .val (.ref kd_2), .val (.int c0), .val (.int c1), .val (.int c2), .val sv10, .val sv40, .val (.ref b72), .val (.int (1 : Int32)), .unset] [(.int (1 : Int32))])) _
    refine XS.goto X88.here hx rfl (pc0 := 244) (pc' := 248) rfl (hb hby at_244) (by decide) (by decide) ?_
    show Steps p.tables e below (T88.setTop (mkF m 248 #[.val (.int j0), .val (.int j1), .val (.int j2), .val (.int j3), .val (.int j4), .val (.int j5), .val (.ref kd_1), .val (.ref kd_2), .val (.int c0), .val (.int c1), .val (.int c2), .val sv10, .val sv40, .val (.ref b72), .val (.int (1 : Int32)), .unset] [(.int (1 : Int32))])) _
    refine XS.istore X88.here hx rfl (hb hby at_248) rfl (l' := #[.val (.int j0), .val (.int j1), .val (.int j2), .val (.int j3), .val (.int j4), .val (.int j5), .val (.ref kd_1), .val (.ref kd_2), .val (.int c0), .val (.int c1), .val (.int c2), .val sv10, .val sv40, .val (.ref b72), .val (.int (1 : Int32)), .val (.int (1 : Int32))]) rfl ?_
    show Steps p.tables e below (T88.setTop (mkF m 250 #[.val (.int j0), .val (.int j1), .val (.int j2), .val (.int j3), .val (.int j4), .val (.int j5), .val (.ref kd_1), .val (.ref kd_2), .val (.int c0), .val (.int c1), .val (.int c2), .val sv10, .val sv40, .val (.ref b72), .val (.int (1 : Int32)), .val (.int (1 : Int32))] [])) _
    refine XS.iload X88.here hx rfl (hb hby at_250) rfl ?_
    show Steps p.tables e below (T88.setTop (mkF m 252 #[.val (.int j0), .val (.int j1), .val (.int j2), .val (.int j3), .val (.int j4), .val (.int j5), .val (.ref kd_1), .val (.ref kd_2), .val (.int c0), .val (.int c1), .val (.int c2), .val sv10, .val sv40, .val (.ref b72), .val (.int (1 : Int32)), .val (.int (1 : Int32))] [(.int (1 : Int32))])) _
    refine XS.ifNo X88.here hx rfl (hb hby at_252) rfl ((if0 _ _).trans (feq (by decide)).1) ?_
    show Steps p.tables e below (T88.setTop (mkF m 255 #[.val (.int j0), .val (.int j1), .val (.int j2), .val (.int j3), .val (.int j4), .val (.int j5), .val (.ref kd_1), .val (.ref kd_2), .val (.int c0), .val (.int c1), .val (.int c2), .val sv10, .val sv40, .val (.ref b72), .val (.int (1 : Int32)), .val (.int (1 : Int32))] [])) _
    refine XS.iload X88.here hx rfl (hb hby at_255) rfl ?_
    show Steps p.tables e below (T88.setTop (mkF m 257 #[.val (.int j0), .val (.int j1), .val (.int j2), .val (.int j3), .val (.int j4), .val (.int j5), .val (.ref kd_1), .val (.ref kd_2), .val (.int c0), .val (.int c1), .val (.int c2), .val sv10, .val sv40, .val (.ref b72), .val (.int (1 : Int32)), .val (.int (1 : Int32))] [(.int (1 : Int32))])) _
    refine XS.ifNo X88.here hx rfl (hb hby at_257) rfl ((if0 _ _).trans (feq (by decide)).1) ?_
    show Steps p.tables e below (T88.setTop (mkF m 260 #[.val (.int j0), .val (.int j1), .val (.int j2), .val (.int j3), .val (.int j4), .val (.int j5), .val (.ref kd_1), .val (.ref kd_2), .val (.int c0), .val (.int c1), .val (.int c2), .val sv10, .val sv40, .val (.ref b72), .val (.int (1 : Int32)), .val (.int (1 : Int32))] [])) _
    refine XS.iconst X88.here hx rfl (hb hby at_260) ?_
    show Steps p.tables e below (T88.setTop (mkF m 261 #[.val (.int j0), .val (.int j1), .val (.int j2), .val (.int j3), .val (.int j4), .val (.int j5), .val (.ref kd_1), .val (.ref kd_2), .val (.int c0), .val (.int c1), .val (.int c2), .val sv10, .val sv40, .val (.ref b72), .val (.int (1 : Int32)), .val (.int (1 : Int32))] [(.int (1 : Int32))])) _
    refine XS.goto X88.here hx rfl (pc0 := 261) (pc' := 265) rfl (hb hby at_261) (by decide) (by decide) ?_
    show Steps p.tables e below (T88.setTop (mkF m 265 #[.val (.int j0), .val (.int j1), .val (.int j2), .val (.int j3), .val (.int j4), .val (.int j5), .val (.ref kd_1), .val (.ref kd_2), .val (.int c0), .val (.int c1), .val (.int c2), .val sv10, .val sv40, .val (.ref b72), .val (.int (1 : Int32)), .val (.int (1 : Int32))] [(.int (1 : Int32))])) _
    exact retN X88 hx (t := .boolean) Bd.returns (by simp) (hb hby at_265) hr
  · show Q_own_law Z j0 j1 j2 j3 j4 j5 u0 u1 u2 u3 u4 u5 u6 u7 u8 u9 u10 u11 u12 u13 u14 u15 u16 u17 u18 u19 G1 h0 n0 _ T88.heap _
    rw [hh88]
    exact ⟨rfl, N88⟩
set_option maxRecDepth 65536 in
set_option maxHeartbeats 40000000 in
theorem comes_1 {Post : Tables → Env → Array Value → State → Outcome → State → Prop} (hpost : ∀ tb e args s v u, (limb_1_1.after args s (.returned v) u = true ∧ limb_1_2.after args s (.returned v) u = true ∧ True) → FrameEnd s (.returned v) u (Jvm.fieldLocs frame_1_writes args s ++ Jvm.arrayLocs frame_1_arrays args s ++ Jvm.staticLocs frame_1_statics s) 24 128 → Post tb e args s (.returned v) u) :
    ArmFor flags0 classFile x code maxLocals ret World_1 tables_1 room_1 Calls_1 rest_1 Pre_1 Post := by
  intro l hfl _ _ p e ha hc hk s m args below hf hA hF happ hP
  obtain ⟨hcalls, hrest, hpre⟩ := hP
  obtain ⟨-, -, -, hnamed, -, -, -, hat⟩ := (Spec.applies_iff hf).mp happ
  obtain ⟨hg, hn⟩ := and_e (Cond.before_iff.mp (show (Jvm.Cond.and given_1 narrow_1).before args s = true from hpre))
  obtain ⟨g0, g1⟩ := and_e hg
  obtain ⟨g1, g2⟩ := and_e g1
  obtain ⟨g2, g3⟩ := and_e g2
  obtain ⟨g3, g4⟩ := and_e g3
  obtain ⟨g4, g5⟩ := and_e g4
  obtain ⟨g5, g6⟩ := and_e g5
  obtain ⟨w0, w1, w2, w3, w4, w5, rfl⟩ : ∃ (w0 : Value) (w1 : Value) (w2 : Value) (w3 : Value) (w4 : Value) (w5 : Value), args = #[w0, w1, w2, w3, w4, w5] := by
    have hs : args.size = 6 := by simpa [Cond.value, given_1] using g0
    obtain ⟨L⟩ := args
    match L, hs with
    | [w0, w1, w2, w3, w4, w5], _ => exact ⟨w0, w1, w2, w3, w4, w5, rfl⟩
  have hw := fun d (hd : d ∈ tables_1) => atoms_spec (ws := Jvm.Cond.code x code maxLocals ret :: tables_1) hat d (List.mem_cons_of_mem _ hd)
  obtain ⟨hsets, hown0⟩ := atoms_of _ (rest_1_c_eq ▸ (show rest_1_c.before _ s = true from hrest))
  have hfit : Fit s := fun {y c} hc i hi => by
    obtain ⟨ha, rfl⟩ := Array.getElem?_eq_some_iff.mp hc
    have q := List.all_eq_true.mp ((Array.all_eq_true_iff_forall_mem.mp hF) _ (Array.getElem_mem ha)) i (List.mem_range.mpr hi)
    simpa [Array.getElem?_eq_getElem hi] using q
  obtain ⟨i0, ev0⟩ := is_v g1
  obtain rfl : w0 = (.int i0) := Option.some.inj ev0
  obtain ⟨i1, ev1⟩ := is_v g2
  obtain rfl : w1 = (.int i1) := Option.some.inj ev1
  obtain ⟨i2, ev2⟩ := is_v g3
  obtain rfl : w2 = (.int i2) := Option.some.inj ev2
  obtain ⟨i3, ev3⟩ := is_v g4
  obtain rfl : w3 = (.int i3) := Option.some.inj ev3
  obtain ⟨i4, ev4⟩ := is_v g5
  obtain rfl : w4 = (.int i4) := Option.some.inj ev4
  obtain ⟨i5, ev5⟩ := is_v g6
  obtain rfl : w5 = (.int i5) := Option.some.inj ev5
  obtain ⟨n0, hn1⟩ := and_e hn
  obtain ⟨n1, hn2⟩ := and_e hn1
  obtain ⟨n2, hn3⟩ := and_e hn2
  obtain ⟨n3, hn4⟩ := and_e hn3
  obtain ⟨n4, hn5⟩ := and_e hn4
  obtain ⟨n5, hn6⟩ := and_e hn5
  obtain ⟨n6, hn7⟩ := and_e hn6
  obtain ⟨n7, hn8⟩ := and_e hn7
  obtain ⟨n8, hn9⟩ := and_e hn8
  obtain ⟨n9, hn10⟩ := and_e hn9
  obtain ⟨n10, hn11⟩ := and_e hn10
  obtain ⟨n11, hn12⟩ := and_e hn11
  obtain ⟨n12, hn13⟩ := and_e hn12
  obtain ⟨n13, hn14⟩ := and_e hn13
  obtain ⟨n14, hn15⟩ := and_e hn14
  obtain ⟨n15, hn16⟩ := and_e hn15
  obtain ⟨n16, hn17⟩ := and_e hn16
  obtain ⟨n17, hn18⟩ := and_e hn17
  obtain ⟨n18, n19⟩ := and_e hn18
  obtain ⟨a_IDENTIFIER, ev_IDENTIFIER⟩ := exa_v n0
  have X_IDENTIFIER := Exa.start ev_IDENTIFIER n0
  have S_IDENTIFIER := Sta.start ev_IDENTIFIER (Or.inr ⟨(hw _ (List.mem_of_getElem? (i := 5) rfl)), (hw _ (List.mem_of_getElem? (i := 6) rfl))⟩)
  obtain ⟨a_DOC_COMMENT, ev_DOC_COMMENT⟩ := exa_v n1
  have X_DOC_COMMENT := Exa.start ev_DOC_COMMENT n1
  have S_DOC_COMMENT := Sta.start ev_DOC_COMMENT (Or.inr ⟨(hw _ (List.mem_of_getElem? (i := 5) rfl)), (hw _ (List.mem_of_getElem? (i := 50) rfl))⟩)
  obtain ⟨a_COLON, ev_COLON⟩ := exa_v n2
  have X_COLON := Exa.start ev_COLON n2
  have S_COLON := Sta.start ev_COLON (Or.inr ⟨(hw _ (List.mem_of_getElem? (i := 5) rfl)), (hw _ (List.mem_of_getElem? (i := 52) rfl))⟩)
  obtain ⟨a_RIGHT_BRACE, ev_RIGHT_BRACE⟩ := exa_v n3
  have X_RIGHT_BRACE := Exa.start ev_RIGHT_BRACE n3
  have S_RIGHT_BRACE := Sta.start ev_RIGHT_BRACE (Or.inr ⟨(hw _ (List.mem_of_getElem? (i := 5) rfl)), (hw _ (List.mem_of_getElem? (i := 54) rfl))⟩)
  obtain ⟨a_DOT, ev_DOT⟩ := exa_v n4
  have X_DOT := Exa.start ev_DOT n4
  have S_DOT := Sta.start ev_DOT (Or.inr ⟨(hw _ (List.mem_of_getElem? (i := 5) rfl)), (hw _ (List.mem_of_getElem? (i := 56) rfl))⟩)
  obtain ⟨a_EQUALS, ev_EQUALS⟩ := exa_v n5
  have X_EQUALS := Exa.start ev_EQUALS n5
  have S_EQUALS := Sta.start ev_EQUALS (Or.inr ⟨(hw _ (List.mem_of_getElem? (i := 5) rfl)), (hw _ (List.mem_of_getElem? (i := 58) rfl))⟩)
  obtain ⟨a_COMMA, ev_COMMA⟩ := exa_v n6
  have X_COMMA := Exa.start ev_COMMA n6
  have S_COMMA := Sta.start ev_COMMA (Or.inr ⟨(hw _ (List.mem_of_getElem? (i := 5) rfl)), (hw _ (List.mem_of_getElem? (i := 60) rfl))⟩)
  obtain ⟨a_SEMICOLON, ev_SEMICOLON⟩ := exa_v n7
  have X_SEMICOLON := Exa.start ev_SEMICOLON n7
  have S_SEMICOLON := Sta.start ev_SEMICOLON (Or.inr ⟨(hw _ (List.mem_of_getElem? (i := 5) rfl)), (hw _ (List.mem_of_getElem? (i := 90) rfl))⟩)
  obtain ⟨a_RIGHT_ANGLE, ev_RIGHT_ANGLE⟩ := exa_v n8
  have X_RIGHT_ANGLE := Exa.start ev_RIGHT_ANGLE n8
  have S_RIGHT_ANGLE := Sta.start ev_RIGHT_ANGLE (Or.inr ⟨(hw _ (List.mem_of_getElem? (i := 5) rfl)), (hw _ (List.mem_of_getElem? (i := 92) rfl))⟩)
  obtain ⟨a_LEFT_ANGLE, ev_LEFT_ANGLE⟩ := exa_v n9
  have X_LEFT_ANGLE := Exa.start ev_LEFT_ANGLE n9
  have S_LEFT_ANGLE := Sta.start ev_LEFT_ANGLE (Or.inr ⟨(hw _ (List.mem_of_getElem? (i := 5) rfl)), (hw _ (List.mem_of_getElem? (i := 94) rfl))⟩)
  obtain ⟨a_RIGHT_PAREN, ev_RIGHT_PAREN⟩ := exa_v n10
  have X_RIGHT_PAREN := Exa.start ev_RIGHT_PAREN n10
  have S_RIGHT_PAREN := Sta.start ev_RIGHT_PAREN (Or.inr ⟨(hw _ (List.mem_of_getElem? (i := 5) rfl)), (hw _ (List.mem_of_getElem? (i := 96) rfl))⟩)
  obtain ⟨a_ARROW, ev_ARROW⟩ := exa_v n11
  have X_ARROW := Exa.start ev_ARROW n11
  have S_ARROW := Sta.start ev_ARROW (Or.inr ⟨(hw _ (List.mem_of_getElem? (i := 5) rfl)), (hw _ (List.mem_of_getElem? (i := 98) rfl))⟩)
  obtain ⟨a_STRING, ev_STRING⟩ := exa_v n12
  have X_STRING := Exa.start ev_STRING n12
  have S_STRING := Sta.start ev_STRING (Or.inr ⟨(hw _ (List.mem_of_getElem? (i := 5) rfl)), (hw _ (List.mem_of_getElem? (i := 100) rfl))⟩)
  obtain ⟨a_FLOAT, ev_FLOAT⟩ := exa_v n13
  have X_FLOAT := Exa.start ev_FLOAT n13
  have S_FLOAT := Sta.start ev_FLOAT (Or.inr ⟨(hw _ (List.mem_of_getElem? (i := 5) rfl)), (hw _ (List.mem_of_getElem? (i := 102) rfl))⟩)
  obtain ⟨a_INTEGER, ev_INTEGER⟩ := exa_v n14
  have X_INTEGER := Exa.start ev_INTEGER n14
  have S_INTEGER := Sta.start ev_INTEGER (Or.inr ⟨(hw _ (List.mem_of_getElem? (i := 5) rfl)), (hw _ (List.mem_of_getElem? (i := 104) rfl))⟩)
  obtain ⟨a_AT, ev_AT⟩ := exa_v n15
  have X_AT := Exa.start ev_AT n15
  have S_AT := Sta.start ev_AT (Or.inr ⟨(hw _ (List.mem_of_getElem? (i := 5) rfl)), (hw _ (List.mem_of_getElem? (i := 106) rfl))⟩)
  obtain ⟨a_LEFT_BRACE, ev_LEFT_BRACE⟩ := exa_v n16
  have X_LEFT_BRACE := Exa.start ev_LEFT_BRACE n16
  have S_LEFT_BRACE := Sta.start ev_LEFT_BRACE (Or.inr ⟨(hw _ (List.mem_of_getElem? (i := 5) rfl)), (hw _ (List.mem_of_getElem? (i := 108) rfl))⟩)
  obtain ⟨a_LEFT_PAREN, ev_LEFT_PAREN⟩ := exa_v n17
  have X_LEFT_PAREN := Exa.start ev_LEFT_PAREN n17
  have S_LEFT_PAREN := Sta.start ev_LEFT_PAREN (Or.inr ⟨(hw _ (List.mem_of_getElem? (i := 5) rfl)), (hw _ (List.mem_of_getElem? (i := 110) rfl))⟩)
  obtain ⟨a_END, ev_END⟩ := exa_v n18
  have X_END := Exa.start ev_END n18
  have S_END := Sta.start ev_END (Or.inr ⟨(hw _ (List.mem_of_getElem? (i := 5) rfl)), (hw _ (List.mem_of_getElem? (i := 112) rfl))⟩)
  obtain ⟨a_PIPE, ev_PIPE⟩ := exa_v n19
  have X_PIPE := Exa.start ev_PIPE n19
  have S_PIPE := Sta.start ev_PIPE (Or.inr ⟨(hw _ (List.mem_of_getElem? (i := 5) rfl)), (hw _ (List.mem_of_getElem? (i := 114) rfl))⟩)
  obtain ⟨G1, eG1⟩ := is_v (Cond.before_iff.mp (hsets _ (List.mem_of_getElem? (i := 1) rfl)))
  have S_CS : Sta s s.heap "java/lang/String" "COMPACT_STRINGS" "Z" (.int G1) := Sta.start eG1 (Or.inl (hsets _ (List.mem_of_getElem? (i := 0) rfl)))
  have nG1 := not_v (Cond.before_iff.mp (hsets _ (List.mem_of_getElem? (i := 2) rfl)))
  have hG1 : ¬ (G1 = (0 : Int32)) := gotF (Cond.eq_ints eG1 (Term.int_eval (0))) nG1
  obtain ⟨n, o, h1, h2, h3, _, L, rfl, ⟨rfl, N⟩, hq⟩ := own_law l s _ hw tables_1 i0 i1 i2 i3 i4 i5 a_IDENTIFIER a_INTEGER a_FLOAT a_STRING a_DOC_COMMENT a_LEFT_PAREN a_RIGHT_PAREN a_LEFT_BRACE a_RIGHT_BRACE a_LEFT_ANGLE a_RIGHT_ANGLE a_COMMA a_SEMICOLON a_COLON a_EQUALS a_DOT a_AT a_PIPE a_ARROW a_END G1 s.heap s.heap.size (Old.start s) S_IDENTIFIER S_INTEGER S_FLOAT S_STRING S_DOC_COMMENT S_LEFT_PAREN S_RIGHT_PAREN S_LEFT_BRACE S_RIGHT_BRACE S_LEFT_ANGLE S_RIGHT_ANGLE S_COMMA S_SEMICOLON S_COLON S_EQUALS S_DOT S_AT S_PIPE S_ARROW S_END S_CS hG1 p e ha hc hk s m _ below hf ((Spec.applies_iff_loose hf).mp happ).1 ⟨rfl, State.Warmed39.refl s, rfl⟩ trivial
  refine ⟨n, _, h1, h2, h3, hpost _ _ _ _ _ _ ⟨Cond.after_iff.mpr rfl, Cond.after_iff.mpr (eq_i res_at (Term.int_eval (1)) rfl), trivial⟩ ⟨hq.1, hq.2.1, (hq.2.2.sift fun y hy => Or.inr (N y hy)).mono (by decide) (by decide)⟩⟩
theorem main_1_1 : Claimed_1_1 := comes_1 fun _ _ _ _ _ _ h hF => ⟨h.1, hF⟩
theorem main_1_2 : Claimed_1_2 := comes_1 fun _ _ _ _ _ _ h hF => ⟨h.2.1, hF⟩
end Jvm.Pilot.@@N@@
namespace Jvm.Pilot.@@N@@
open Jvm Jvm.ClassFile Sem Op Lib Jvm.Free Jvm.Stand Jvm.Pilot.@@N@@.Jvm.D
/-! MADE BY PROGRAM (witnessworld.py) out of the Statement's table words and the real class files: 22 classes; the members and pool entries that the words name. The judged class is class 1, her method 2. -/
namespace start1
open Jvm.ClassFile
def u (s : String) : CpInfo := .utf8 (stringToUtf16 s)
/-- a pool by its gaps: so many unusable entries, then the entry; so many at the end -/
def gap : Nat → List CpInfo → List CpInfo
  | 0, r => r
  | n + 1, r => .unusable :: gap n r
def poolList (es : List (Nat × CpInfo)) (last : Nat) : List CpInfo := es.foldr (fun e r => gap e.1 (e.2 :: r)) (gap last [])
def pool (es : List (Nat × CpInfo)) (last : Nat) : Array CpInfo := ⟨poolList es last⟩
def fileOf (pool : Array CpInfo) (this : Nat) (attrs : Array Attribute := #[]) (ms : Array MethodInfo := #[]) (fl : Nat := 33) (sup : Nat := 0) (ifs : Array Nat := #[]) (fds : Array FieldInfo := #[]) : ClassFile where
  minorVersion := 0
  majorVersion := 65
  constantPool := pool
  accessFlags := fl
  thisClass := this
  superClass := sup
  interfaces := ifs
  fields := fds
  methods := ms
  attributes := attrs
def plain (name : String) (sup : Option ClassId) : Class where
  name := name
  kind := .ordinary
  loader := none
  accessFlags := 33
  super := sup
  interfaces := #[]
  cf := none
  fields := #[]
  methods := #[]
  instanceTypes := #[]
  staticTypes := #[]
  resolved := #[]
  callSites := []
  init := .initialized
  statics := none
  mirror := none

def pool0 : Array CpInfo := pool [(5, u "<init>"), (0, u "()V"), (1, .class_ 10), (1, u "java/lang/Object")] 113

def k0c0 : Code := { maxStack := 0, maxLocals := 1, code := object_method_1_code, exceptionTable := #[], attributes := #[] }
def k0m0 : Method := { name := "<init>", desc := "()V", sig := { parameters := [], returnType := none }, accessFlags := 1, code := some k0c0 }
/-- java/lang/Object -/
def k0 : Class := { plain "java/lang/Object" none with
  accessFlags := 33
  interfaces := #[]
  cf := some (fileOf pool0 8 #[] #[{ accessFlags := 1, nameIndex := 5, descriptorIndex := 6, attributes := #[] }] 33 0 #[] #[])
  fields := #[]
  methods := #[k0m0]
  instanceTypes := #[]
  staticTypes := #[]
  resolved := Array.replicate 124 none
  statics := none }

def pool1 : Array CpInfo := pool [(2, .class_ 4), (0, .nameAndType 5 6), (0, u "java/lang/Object"), (0, u "<init>"), (0, u "()V"), (0, .fieldref 8 9), (0, .class_ 10), (0, .nameAndType 11 12), (0, u "com/example/interfold/interfold/fidl/Token$Kind"), (0, u "IDENTIFIER"), (0, u "Lcom/example/interfold/interfold/fidl/Token$Kind;"), (0, .fieldref 8 14), (0, .nameAndType 15 12), (0, u "INTEGER"), (0, .fieldref 8 17), (0, .nameAndType 18 12), (0, u "FLOAT"), (0, .fieldref 8 20), (0, .nameAndType 21 12), (0, u "STRING"), (0, .fieldref 8 23), (0, .nameAndType 24 12), (0, u "DOC_COMMENT"), (0, .fieldref 8 26), (0, .nameAndType 27 12), (0, u "LEFT_PAREN"), (0, .fieldref 8 29), (0, .nameAndType 30 12), (0, u "RIGHT_PAREN"), (0, .fieldref 8 32), (0, .nameAndType 33 12), (0, u "LEFT_BRACE"), (0, .fieldref 8 35), (0, .nameAndType 36 12), (0, u "RIGHT_BRACE"), (0, .fieldref 8 38), (0, .nameAndType 39 12), (0, u "LEFT_ANGLE"), (0, .fieldref 8 41), (0, .nameAndType 42 12), (0, u "RIGHT_ANGLE"), (0, .fieldref 8 44), (0, .nameAndType 45 12), (0, u "COMMA"), (0, .fieldref 8 47), (0, .nameAndType 48 12), (0, u "SEMICOLON"), (0, .fieldref 8 50), (0, .nameAndType 51 12), (0, u "COLON"), (0, .fieldref 8 53), (0, .nameAndType 54 12), (0, u "EQUALS"), (0, .fieldref 8 56), (0, .nameAndType 57 12), (0, u "DOT"), (0, .fieldref 8 59), (0, .nameAndType 60 12), (0, u "AT"), (0, .fieldref 8 62), (0, .nameAndType 63 12), (0, u "PIPE"), (0, .fieldref 8 65), (0, .nameAndType 66 12), (0, u "ARROW"), (0, .fieldref 8 68), (0, .nameAndType 69 12), (0, u "END"), (0, .methodref 71 72), (0, .class_ 73), (0, .nameAndType 74 75), (0, u "com/example/interfold/interfold/fidl/TokenSetPinLaw"), (0, u "kindOf"), (0, u "(I)Lcom/example/interfold/interfold/fidl/Token$Kind;"), (0, .class_ 77), (0, u "java/lang/String"), (0, .methodref 76 79), (0, .nameAndType 5 80), (0, u "([C)V"), (0, .class_ 82), (0, u "com/example/interfold/interfold/fidl/Token"), (0, .methodref 81 3), (0, .methodref 81 85), (0, .nameAndType 86 87), (0, u "set"), (0, u "(Lcom/example/interfold/interfold/fidl/Token$Kind;IILjava/lang/String;)V"), (0, .methodref 81 89), (0, .nameAndType 90 91), (0, u "kind"), (0, u "()Lcom/example/interfold/interfold/fidl/Token$Kind;"), (0, .methodref 81 93), (0, .nameAndType 94 95), (0, u "start"), (0, u "()I"), (0, .methodref 81 97), (0, .nameAndType 98 95), (0, u "end"), (0, .methodref 81 100), (0, .nameAndType 101 102), (0, u "value"), (0, u "()Ljava/lang/String;"), (3, u "law"), (0, u "(IIIIII)Z")] 4

def k1m0 : Method := { name := "<init>", desc := "()V", sig := { parameters := [], returnType := none }, accessFlags := 1, code := none }
def k1c1 : Code := { maxStack := 2, maxLocals := 1, code := method_2_code, exceptionTable := #[], attributes := #[] }
def k1m1 : Method := { name := "kindOf", desc := "(I)Lcom/example/interfold/interfold/fidl/Token$Kind;", sig := { parameters := [.int], returnType := some (.object "com/example/interfold/interfold/fidl/Token$Kind") }, accessFlags := 10, code := some k1c1 }
def k1c2 : Code := { maxStack := 6, maxLocals := 16, code := code, exceptionTable := #[], attributes := #[] }
def k1m2 : Method := { name := "law", desc := "(IIIIII)Z", sig := { parameters := [.int, .int, .int, .int, .int, .int], returnType := some .boolean }, accessFlags := 9, code := some k1c2 }
/-- com/example/interfold/interfold/fidl/TokenSetPinLaw -/
def k1 : Class := { plain "com/example/interfold/interfold/fidl/TokenSetPinLaw" (some 0) with
  accessFlags := 49
  interfaces := #[]
  cf := some (fileOf pool1 71 #[] #[{ accessFlags := 1, nameIndex := 5, descriptorIndex := 6, attributes := #[] }, { accessFlags := 10, nameIndex := 74, descriptorIndex := 75, attributes := #[] }, { accessFlags := 9, nameIndex := 106, descriptorIndex := 107, attributes := #[] }] 49 2 #[] #[])
  fields := #[]
  methods := #[k1m0, k1m1, k1m2]
  instanceTypes := #[]
  staticTypes := #[]
  resolved := Array.replicate 112 none
  statics := none }

def pool2 : Array CpInfo := pool [(1, .class_ 2), (0, u "java/lang/constant/Constable"), (0, .class_ 4), (0, u "java/lang/Object")] 6

/-- java/lang/constant/Constable -/
def k2 : Class := { plain "java/lang/constant/Constable" (some 0) with
  accessFlags := 1537
  interfaces := #[]
  cf := some (fileOf pool2 1 #[] #[] 1537 3 #[] #[])
  fields := #[]
  methods := #[]
  instanceTypes := #[]
  staticTypes := #[]
  resolved := Array.replicate 11 none
  statics := none }

def pool3 : Array CpInfo := pool [(1, .class_ 2), (0, u "java/lang/Comparable"), (0, .class_ 4), (0, u "java/lang/Object")] 7

/-- java/lang/Comparable -/
def k3 : Class := { plain "java/lang/Comparable" (some 0) with
  accessFlags := 1537
  interfaces := #[]
  cf := some (fileOf pool3 1 #[] #[] 1537 3 #[] #[])
  fields := #[]
  methods := #[]
  instanceTypes := #[]
  staticTypes := #[]
  resolved := Array.replicate 12 none
  statics := none }

def pool4 : Array CpInfo := pool [(1, .class_ 2), (0, u "java/io/Serializable"), (0, .class_ 4), (0, u "java/lang/Object")] 2

/-- java/io/Serializable -/
def k4 : Class := { plain "java/io/Serializable" (some 0) with
  accessFlags := 1537
  interfaces := #[]
  cf := some (fileOf pool4 1 #[] #[] 1537 3 #[] #[])
  fields := #[]
  methods := #[]
  instanceTypes := #[]
  staticTypes := #[]
  resolved := Array.replicate 7 none
  statics := none }

def pool5 : Array CpInfo := pool [(2, .class_ 4), (1, u "java/lang/Enum"), (0, u "name"), (0, u "Ljava/lang/String;"), (2, u "ordinal"), (0, u "I"), (1, .class_ 14), (1, u "java/lang/Object"), (4, u "hash"), (86, .class_ 108), (1, u "java/lang/Enum$EnumDesc"), (2, .class_ 112), (0, u "java/lang/constant/Constable"), (0, .class_ 114), (0, u "java/lang/Comparable"), (0, .class_ 116), (0, u "java/io/Serializable")] 87

/-- java/lang/Enum -/
def k5 : Class := { plain "java/lang/Enum" (some 0) with
  accessFlags := 1057
  interfaces := #[2, 3, 4]
  cf := some (fileOf pool5 2 #[.nestMembers #[106]] #[] 1057 12 #[111, 113, 115] #[{ accessFlags := 18, nameIndex := 5, descriptorIndex := 6, attributes := #[] }, { accessFlags := 18, nameIndex := 9, descriptorIndex := 10, attributes := #[] }, { accessFlags := 2, nameIndex := 19, descriptorIndex := 10, attributes := #[] }])
  fields := #[{ name := "name", type := (.object "java/lang/String"), accessFlags := 18, slot := 0, constantValue := 0 }, { name := "ordinal", type := .int, accessFlags := 18, slot := 1, constantValue := 0 }, { name := "hash", type := .int, accessFlags := 2, slot := 2, constantValue := 0 }]
  methods := #[]
  instanceTypes := #[(.object "java/lang/String"), .int, .int]
  staticTypes := #[]
  resolved := Array.replicate 204 none
  statics := none }

def pool6 : Array CpInfo := pool [(1, .class_ 2), (0, u "com/example/interfold/interfold/fidl/Token$Kind"), (2, u "IDENTIFIER"), (0, u "Lcom/example/interfold/interfold/fidl/Token$Kind;"), (2, u "INTEGER"), (2, u "FLOAT"), (2, u "STRING"), (2, u "DOC_COMMENT"), (2, u "LEFT_PAREN"), (2, u "RIGHT_PAREN"), (2, u "LEFT_BRACE"), (2, u "RIGHT_BRACE"), (2, u "LEFT_ANGLE"), (2, u "RIGHT_ANGLE"), (2, u "COMMA"), (2, u "SEMICOLON"), (2, u "COLON"), (2, u "EQUALS"), (2, u "DOT"), (2, u "AT"), (2, u "PIPE"), (2, u "ARROW"), (2, u "END"), (2, u "$VALUES"), (0, u "[Lcom/example/interfold/interfold/fidl/Token$Kind;"), (6, .class_ 76), (1, u "java/lang/Enum"), (8, u "description"), (0, u "Ljava/lang/String;"), (81, .class_ 169), (0, u "com/example/interfold/interfold/fidl/Token")] 2

/-- com/example/interfold/interfold/fidl/Token$Kind -/
def k6 : Class := { plain "com/example/interfold/interfold/fidl/Token$Kind" (some 5) with
  accessFlags := 16432
  interfaces := #[]
  cf := some (fileOf pool6 1 #[.nestHost 168] #[] 16432 74 #[] #[{ accessFlags := 16409, nameIndex := 5, descriptorIndex := 6, attributes := #[] }, { accessFlags := 16409, nameIndex := 9, descriptorIndex := 6, attributes := #[] }, { accessFlags := 16409, nameIndex := 12, descriptorIndex := 6, attributes := #[] }, { accessFlags := 16409, nameIndex := 15, descriptorIndex := 6, attributes := #[] }, { accessFlags := 16409, nameIndex := 18, descriptorIndex := 6, attributes := #[] }, { accessFlags := 16409, nameIndex := 21, descriptorIndex := 6, attributes := #[] }, { accessFlags := 16409, nameIndex := 24, descriptorIndex := 6, attributes := #[] }, { accessFlags := 16409, nameIndex := 27, descriptorIndex := 6, attributes := #[] }, { accessFlags := 16409, nameIndex := 30, descriptorIndex := 6, attributes := #[] }, { accessFlags := 16409, nameIndex := 33, descriptorIndex := 6, attributes := #[] }, { accessFlags := 16409, nameIndex := 36, descriptorIndex := 6, attributes := #[] }, { accessFlags := 16409, nameIndex := 39, descriptorIndex := 6, attributes := #[] }, { accessFlags := 16409, nameIndex := 42, descriptorIndex := 6, attributes := #[] }, { accessFlags := 16409, nameIndex := 45, descriptorIndex := 6, attributes := #[] }, { accessFlags := 16409, nameIndex := 48, descriptorIndex := 6, attributes := #[] }, { accessFlags := 16409, nameIndex := 51, descriptorIndex := 6, attributes := #[] }, { accessFlags := 16409, nameIndex := 54, descriptorIndex := 6, attributes := #[] }, { accessFlags := 16409, nameIndex := 57, descriptorIndex := 6, attributes := #[] }, { accessFlags := 16409, nameIndex := 60, descriptorIndex := 6, attributes := #[] }, { accessFlags := 16409, nameIndex := 63, descriptorIndex := 6, attributes := #[] }, { accessFlags := 18, nameIndex := 85, descriptorIndex := 86, attributes := #[] }, { accessFlags := 4122, nameIndex := 66, descriptorIndex := 67, attributes := #[] }])
  fields := #[{ name := "IDENTIFIER", type := (.object "com/example/interfold/interfold/fidl/Token$Kind"), accessFlags := 16409, slot := 0, constantValue := 0 }, { name := "INTEGER", type := (.object "com/example/interfold/interfold/fidl/Token$Kind"), accessFlags := 16409, slot := 1, constantValue := 0 }, { name := "FLOAT", type := (.object "com/example/interfold/interfold/fidl/Token$Kind"), accessFlags := 16409, slot := 2, constantValue := 0 }, { name := "STRING", type := (.object "com/example/interfold/interfold/fidl/Token$Kind"), accessFlags := 16409, slot := 3, constantValue := 0 }, { name := "DOC_COMMENT", type := (.object "com/example/interfold/interfold/fidl/Token$Kind"), accessFlags := 16409, slot := 4, constantValue := 0 }, { name := "LEFT_PAREN", type := (.object "com/example/interfold/interfold/fidl/Token$Kind"), accessFlags := 16409, slot := 5, constantValue := 0 }, { name := "RIGHT_PAREN", type := (.object "com/example/interfold/interfold/fidl/Token$Kind"), accessFlags := 16409, slot := 6, constantValue := 0 }, { name := "LEFT_BRACE", type := (.object "com/example/interfold/interfold/fidl/Token$Kind"), accessFlags := 16409, slot := 7, constantValue := 0 }, { name := "RIGHT_BRACE", type := (.object "com/example/interfold/interfold/fidl/Token$Kind"), accessFlags := 16409, slot := 8, constantValue := 0 }, { name := "LEFT_ANGLE", type := (.object "com/example/interfold/interfold/fidl/Token$Kind"), accessFlags := 16409, slot := 9, constantValue := 0 }, { name := "RIGHT_ANGLE", type := (.object "com/example/interfold/interfold/fidl/Token$Kind"), accessFlags := 16409, slot := 10, constantValue := 0 }, { name := "COMMA", type := (.object "com/example/interfold/interfold/fidl/Token$Kind"), accessFlags := 16409, slot := 11, constantValue := 0 }, { name := "SEMICOLON", type := (.object "com/example/interfold/interfold/fidl/Token$Kind"), accessFlags := 16409, slot := 12, constantValue := 0 }, { name := "COLON", type := (.object "com/example/interfold/interfold/fidl/Token$Kind"), accessFlags := 16409, slot := 13, constantValue := 0 }, { name := "EQUALS", type := (.object "com/example/interfold/interfold/fidl/Token$Kind"), accessFlags := 16409, slot := 14, constantValue := 0 }, { name := "DOT", type := (.object "com/example/interfold/interfold/fidl/Token$Kind"), accessFlags := 16409, slot := 15, constantValue := 0 }, { name := "AT", type := (.object "com/example/interfold/interfold/fidl/Token$Kind"), accessFlags := 16409, slot := 16, constantValue := 0 }, { name := "PIPE", type := (.object "com/example/interfold/interfold/fidl/Token$Kind"), accessFlags := 16409, slot := 17, constantValue := 0 }, { name := "ARROW", type := (.object "com/example/interfold/interfold/fidl/Token$Kind"), accessFlags := 16409, slot := 18, constantValue := 0 }, { name := "END", type := (.object "com/example/interfold/interfold/fidl/Token$Kind"), accessFlags := 16409, slot := 19, constantValue := 0 }, { name := "description", type := (.object "java/lang/String"), accessFlags := 18, slot := 3, constantValue := 0 }, { name := "$VALUES", type := (.array (.object "com/example/interfold/interfold/fidl/Token$Kind")), accessFlags := 4122, slot := 20, constantValue := 0 }]
  methods := #[]
  instanceTypes := #[(.object "java/lang/String"), .int, .int, (.object "java/lang/String")]
  staticTypes := #[(.object "com/example/interfold/interfold/fidl/Token$Kind"), (.object "com/example/interfold/interfold/fidl/Token$Kind"), (.object "com/example/interfold/interfold/fidl/Token$Kind"), (.object "com/example/interfold/interfold/fidl/Token$Kind"), (.object "com/example/interfold/interfold/fidl/Token$Kind"), (.object "com/example/interfold/interfold/fidl/Token$Kind"), (.object "com/example/interfold/interfold/fidl/Token$Kind"), (.object "com/example/interfold/interfold/fidl/Token$Kind"), (.object "com/example/interfold/interfold/fidl/Token$Kind"), (.object "com/example/interfold/interfold/fidl/Token$Kind"), (.object "com/example/interfold/interfold/fidl/Token$Kind"), (.object "com/example/interfold/interfold/fidl/Token$Kind"), (.object "com/example/interfold/interfold/fidl/Token$Kind"), (.object "com/example/interfold/interfold/fidl/Token$Kind"), (.object "com/example/interfold/interfold/fidl/Token$Kind"), (.object "com/example/interfold/interfold/fidl/Token$Kind"), (.object "com/example/interfold/interfold/fidl/Token$Kind"), (.object "com/example/interfold/interfold/fidl/Token$Kind"), (.object "com/example/interfold/interfold/fidl/Token$Kind"), (.object "com/example/interfold/interfold/fidl/Token$Kind"), (.array (.object "com/example/interfold/interfold/fidl/Token$Kind"))]
  resolved := Array.replicate 172 none
  statics := some 0 }

def pool7 : Array CpInfo := pool [(1, .methodref 2 3), (0, .class_ 4), (0, .nameAndType 5 6), (0, u "java/lang/Object"), (0, u "<init>"), (0, u "()V"), (0, .fieldref 8 9), (0, .class_ 10), (0, .nameAndType 11 12), (0, u "com/example/interfold/interfold/fidl/Token"), (0, u "kind"), (0, u "Lcom/example/interfold/interfold/fidl/Token$Kind;"), (0, .fieldref 8 14), (0, .nameAndType 15 16), (0, u "start"), (0, u "I"), (0, .fieldref 8 18), (0, .nameAndType 19 16), (0, u "end"), (0, .fieldref 8 21), (0, .nameAndType 22 23), (0, u "value"), (0, u "Ljava/lang/String;"), (2, u "set"), (0, u "(Lcom/example/interfold/interfold/fidl/Token$Kind;IILjava/lang/String;)V"), (0, u "()Lcom/example/interfold/interfold/fidl/Token$Kind;"), (0, u "()I"), (0, u "()Ljava/lang/String;"), (3, .class_ 35), (0, u "com/example/interfold/interfold/fidl/Token$Kind")] 2

def k7c0 : Code := { maxStack := 1, maxLocals := 1, code := prog_109_method_1_code, exceptionTable := #[], attributes := #[] }
def k7m0 : Method := { name := "<init>", desc := "()V", sig := { parameters := [], returnType := none }, accessFlags := 0, code := some k7c0 }
def k7c1 : Code := { maxStack := 2, maxLocals := 5, code := prog_109_method_2_code, exceptionTable := #[], attributes := #[] }
def k7m1 : Method := { name := "set", desc := "(Lcom/example/interfold/interfold/fidl/Token$Kind;IILjava/lang/String;)V", sig := { parameters := [(.object "com/example/interfold/interfold/fidl/Token$Kind"), .int, .int, (.object "java/lang/String")], returnType := none }, accessFlags := 0, code := some k7c1 }
def k7c2 : Code := { maxStack := 1, maxLocals := 1, code := prog_109_method_3_code, exceptionTable := #[], attributes := #[] }
def k7m2 : Method := { name := "kind", desc := "()Lcom/example/interfold/interfold/fidl/Token$Kind;", sig := { parameters := [], returnType := some (.object "com/example/interfold/interfold/fidl/Token$Kind") }, accessFlags := 0, code := some k7c2 }
def k7c3 : Code := { maxStack := 1, maxLocals := 1, code := prog_109_method_4_code, exceptionTable := #[], attributes := #[] }
def k7m3 : Method := { name := "start", desc := "()I", sig := { parameters := [], returnType := some .int }, accessFlags := 0, code := some k7c3 }
def k7c4 : Code := { maxStack := 1, maxLocals := 1, code := prog_109_method_5_code, exceptionTable := #[], attributes := #[] }
def k7m4 : Method := { name := "end", desc := "()I", sig := { parameters := [], returnType := some .int }, accessFlags := 0, code := some k7c4 }
def k7c5 : Code := { maxStack := 1, maxLocals := 1, code := prog_109_method_6_code, exceptionTable := #[], attributes := #[] }
def k7m5 : Method := { name := "value", desc := "()Ljava/lang/String;", sig := { parameters := [], returnType := some (.object "java/lang/String") }, accessFlags := 0, code := some k7c5 }
/-- com/example/interfold/interfold/fidl/Token -/
def k7 : Class := { plain "com/example/interfold/interfold/fidl/Token" (some 0) with
  accessFlags := 48
  interfaces := #[]
  cf := some (fileOf pool7 8 #[.nestMembers #[34]] #[{ accessFlags := 0, nameIndex := 5, descriptorIndex := 6, attributes := #[] }, { accessFlags := 0, nameIndex := 26, descriptorIndex := 27, attributes := #[] }, { accessFlags := 0, nameIndex := 11, descriptorIndex := 28, attributes := #[] }, { accessFlags := 0, nameIndex := 15, descriptorIndex := 29, attributes := #[] }, { accessFlags := 0, nameIndex := 19, descriptorIndex := 29, attributes := #[] }, { accessFlags := 0, nameIndex := 22, descriptorIndex := 30, attributes := #[] }] 48 2 #[] #[{ accessFlags := 2, nameIndex := 11, descriptorIndex := 12, attributes := #[] }, { accessFlags := 2, nameIndex := 15, descriptorIndex := 16, attributes := #[] }, { accessFlags := 2, nameIndex := 19, descriptorIndex := 16, attributes := #[] }, { accessFlags := 2, nameIndex := 22, descriptorIndex := 23, attributes := #[] }])
  fields := #[{ name := "kind", type := (.object "com/example/interfold/interfold/fidl/Token$Kind"), accessFlags := 2, slot := 0, constantValue := 0 }, { name := "start", type := .int, accessFlags := 2, slot := 1, constantValue := 0 }, { name := "end", type := .int, accessFlags := 2, slot := 2, constantValue := 0 }, { name := "value", type := (.object "java/lang/String"), accessFlags := 2, slot := 3, constantValue := 0 }]
  methods := #[k7m0, k7m1, k7m2, k7m3, k7m4, k7m5]
  instanceTypes := #[(.object "com/example/interfold/interfold/fidl/Token$Kind"), .int, .int, (.object "java/lang/String")]
  staticTypes := #[]
  resolved := Array.replicate 38 none
  statics := none }

def pool8 : Array CpInfo := pool [(2, .class_ 4), (1, u "java/lang/CharSequence"), (42, .class_ 48), (0, u "java/lang/CharSequence$1CodePointIterator"), (10, .class_ 60), (0, u "java/lang/CharSequence$1CharIterator"), (5, .class_ 67), (0, u "java/lang/Object")] 63

/-- java/lang/CharSequence -/
def k8 : Class := { plain "java/lang/CharSequence" (some 0) with
  accessFlags := 1537
  interfaces := #[]
  cf := some (fileOf pool8 2 #[.nestMembers #[47, 59]] #[] 1537 66 #[] #[])
  fields := #[]
  methods := #[]
  instanceTypes := #[]
  staticTypes := #[]
  resolved := Array.replicate 131 none
  statics := none }

def pool9 : Array CpInfo := pool [(1, .class_ 2), (0, u "java/lang/constant/ConstantDesc"), (0, .class_ 4), (0, u "java/lang/Object")] 32

/-- java/lang/constant/ConstantDesc -/
def k9 : Class := { plain "java/lang/constant/ConstantDesc" (some 0) with
  accessFlags := 1537
  interfaces := #[]
  cf := some (fileOf pool9 1 #[] #[] 1537 3 #[] #[])
  fields := #[]
  methods := #[]
  instanceTypes := #[]
  staticTypes := #[]
  resolved := Array.replicate 37 none
  statics := none }

def pool10 : Array CpInfo := pool [(1, .methodref 2 3), (0, .class_ 4), (0, .nameAndType 5 6), (0, u "java/lang/Object"), (0, u "<init>"), (0, u "()V"), (2, .fieldref 10 11), (0, .class_ 12), (0, .nameAndType 13 14), (0, u "java/lang/String"), (0, u "value"), (0, u "[B"), (0, .fieldref 10 16), (0, .nameAndType 17 18), (0, u "coder"), (0, u "B"), (2, u "hash"), (0, u "I"), (2, u "hashIsZero"), (0, u "Z"), (0, .methodref 10 28), (0, .nameAndType 5 29), (0, u "([CIILjava/lang/Void;)V"), (8, .fieldref 10 39), (0, .nameAndType 40 26), (0, u "COMPACT_STRINGS"), (1, .class_ 44), (1, u "java/lang/StringUTF16"), (0, u "compress"), (1, .methodref 42 48), (0, .nameAndType 49 50), (0, u "coderFromArrayLen"), (0, u "([BI)B"), (126, .methodref 42 178), (0, .nameAndType 45 179), (0, u "([CII)[B"), (395, .class_ 576), (0, u "java/lang/CharSequence"), (22, u "CASE_INSENSITIVE_ORDER"), (0, u "Ljava/util/Comparator;"), (409, u "([C)V"), (90, u "serialPersistentFields"), (0, u "[Ljava/io/ObjectStreamField;"), (0, .class_ 1104), (0, u "java/lang/String$CaseInsensitiveComparator"), (1, .class_ 1107), (0, u "java/io/Serializable"), (0, .class_ 1109), (0, u "java/lang/Comparable"), (0, .class_ 1111), (0, u "java/lang/constant/Constable"), (0, .class_ 1113), (0, u "java/lang/constant/ConstantDesc"), (2, u "serialVersionUID"), (0, u "J"), (3, u "REPL"), (0, u "C"), (2, u "LATIN1"), (1, u "UTF16")] 323

def k10m0 : Method := { name := "<init>", desc := "()V", sig := { parameters := [], returnType := none }, accessFlags := 1, code := none }
def k10c1 : Code := { maxStack := 5, maxLocals := 2, code := jdk_42_method_3_code, exceptionTable := #[], attributes := #[] }
def k10m1 : Method := { name := "<init>", desc := "([C)V", sig := { parameters := [(.array .char)], returnType := none }, accessFlags := 1, code := some k10c1 }
def k10c2 : Code := { maxStack := 4, maxLocals := 6, code := jdk_42_method_149_code, exceptionTable := #[], attributes := #[] }
def k10m2 : Method := { name := "<init>", desc := "([CIILjava/lang/Void;)V", sig := { parameters := [(.array .char), .int, .int, (.object "java/lang/Void")], returnType := none }, accessFlags := 2, code := some k10c2 }
/-- java/lang/String -/
def k10 : Class := { plain "java/lang/String" (some 0) with
  accessFlags := 49
  interfaces := #[4, 3, 8, 2, 9]
  cf := some (fileOf pool10 10 #[.nestMembers #[1103]] #[{ accessFlags := 1, nameIndex := 5, descriptorIndex := 6, attributes := #[] }, { accessFlags := 1, nameIndex := 5, descriptorIndex := 1010, attributes := #[] }, { accessFlags := 2, nameIndex := 5, descriptorIndex := 29, attributes := #[] }] 49 2 #[1106, 1108, 575, 1110, 1112] #[{ accessFlags := 18, nameIndex := 13, descriptorIndex := 14, attributes := #[] }, { accessFlags := 18, nameIndex := 17, descriptorIndex := 18, attributes := #[] }, { accessFlags := 2, nameIndex := 21, descriptorIndex := 22, attributes := #[] }, { accessFlags := 2, nameIndex := 25, descriptorIndex := 26, attributes := #[] }, { accessFlags := 26, nameIndex := 1116, descriptorIndex := 1117, attributes := #[] }, { accessFlags := 24, nameIndex := 40, descriptorIndex := 26, attributes := #[] }, { accessFlags := 26, nameIndex := 1101, descriptorIndex := 1102, attributes := #[] }, { accessFlags := 26, nameIndex := 1121, descriptorIndex := 1122, attributes := #[] }, { accessFlags := 25, nameIndex := 599, descriptorIndex := 600, attributes := #[] }, { accessFlags := 24, nameIndex := 1125, descriptorIndex := 18, attributes := #[] }, { accessFlags := 24, nameIndex := 1127, descriptorIndex := 18, attributes := #[] }])
  fields := #[{ name := "value", type := (.array .byte), accessFlags := 18, slot := 0, constantValue := 0 }, { name := "coder", type := .byte, accessFlags := 18, slot := 1, constantValue := 0 }, { name := "hash", type := .int, accessFlags := 2, slot := 2, constantValue := 0 }, { name := "hashIsZero", type := .boolean, accessFlags := 2, slot := 3, constantValue := 0 }, { name := "serialVersionUID", type := .long, accessFlags := 26, slot := 0, constantValue := 0 }, { name := "COMPACT_STRINGS", type := .boolean, accessFlags := 24, slot := 1, constantValue := 0 }, { name := "serialPersistentFields", type := (.array (.object "java/io/ObjectStreamField")), accessFlags := 26, slot := 2, constantValue := 0 }, { name := "REPL", type := .char, accessFlags := 26, slot := 3, constantValue := 0 }, { name := "CASE_INSENSITIVE_ORDER", type := (.object "java/util/Comparator"), accessFlags := 25, slot := 4, constantValue := 0 }, { name := "LATIN1", type := .byte, accessFlags := 24, slot := 5, constantValue := 0 }, { name := "UTF16", type := .byte, accessFlags := 24, slot := 6, constantValue := 0 }]
  methods := #[k10m0, k10m1, k10m2]
  instanceTypes := #[(.array .byte), .byte, .int, .boolean]
  staticTypes := #[.long, .boolean, (.array (.object "java/io/ObjectStreamField")), .char, (.object "java/util/Comparator"), .byte, .byte]
  resolved := Array.replicate 1451 none
  statics := some 1 }

def pool11 : Array CpInfo := pool [(6, .class_ 8), (1, u "java/lang/Object"), (0, u "<init>"), (0, u "()V"), (1, .class_ 14), (1, u "java/lang/StringUTF16"), (31, u "$assertionsDisabled"), (0, u "Z"), (13, u "HI_BYTE_SHIFT"), (0, u "I"), (2, u "LO_BYTE_SHIFT"), (49, .methodref 12 116), (0, .nameAndType 117 118), (0, u "compress"), (0, u "([CI[BII)I"), (3, u "([CII)[B"), (138, u "coderFromArrayLen"), (0, u "([BI)B"), (106, .class_ 371), (1, u "java/lang/StringUTF16$LinesSpliterator"), (58, u "MAX_LENGTH"), (196, .class_ 628), (0, u "java/lang/StringUTF16$CodePointsSpliterator"), (0, .class_ 630), (0, u "java/lang/StringUTF16$CharsSpliterator")] 4

def k11m0 : Method := { name := "<init>", desc := "()V", sig := { parameters := [], returnType := none }, accessFlags := 0, code := none }
def k11c1 : Code := { maxStack := 2, maxLocals := 2, code := jdk_52_method_15_code, exceptionTable := #[], attributes := #[] }
def k11m1 : Method := { name := "coderFromArrayLen", desc := "([BI)B", sig := { parameters := [(.array .byte), .int], returnType := some .byte }, accessFlags := 8, code := some k11c1 }
def k11c2 : Code := { maxStack := 5, maxLocals := 6, code := jdk_52_method_16_code, exceptionTable := #[], attributes := #[] }
def k11m2 : Method := { name := "compress", desc := "([CII)[B", sig := { parameters := [(.array .char), .int, .int], returnType := some (.array .byte) }, accessFlags := 9, code := some k11c2 }
def k11c3 : Code := { maxStack := 3, maxLocals := 7, code := jdk_52_method_21_code, exceptionTable := #[], attributes := #[] }
def k11m3 : Method := { name := "compress", desc := "([CI[BII)I", sig := { parameters := [(.array .char), .int, (.array .byte), .int, .int], returnType := some .int }, accessFlags := 9, code := some k11c3 }
/-- java/lang/StringUTF16 -/
def k11 : Class := { plain "java/lang/StringUTF16" (some 0) with
  accessFlags := 48
  interfaces := #[]
  cf := some (fileOf pool11 12 #[.nestMembers #[627, 629, 369]] #[{ accessFlags := 0, nameIndex := 9, descriptorIndex := 10, attributes := #[] }, { accessFlags := 8, nameIndex := 261, descriptorIndex := 262, attributes := #[] }, { accessFlags := 9, nameIndex := 117, descriptorIndex := 122, attributes := #[] }, { accessFlags := 9, nameIndex := 117, descriptorIndex := 118, attributes := #[] }] 48 6 #[] #[{ accessFlags := 26, nameIndex := 61, descriptorIndex := 62, attributes := #[] }, { accessFlags := 26, nameIndex := 65, descriptorIndex := 62, attributes := #[] }, { accessFlags := 24, nameIndex := 430, descriptorIndex := 62, attributes := #[] }, { accessFlags := 4120, nameIndex := 46, descriptorIndex := 47, attributes := #[] }])
  fields := #[{ name := "HI_BYTE_SHIFT", type := .int, accessFlags := 26, slot := 0, constantValue := 0 }, { name := "LO_BYTE_SHIFT", type := .int, accessFlags := 26, slot := 1, constantValue := 0 }, { name := "MAX_LENGTH", type := .int, accessFlags := 24, slot := 2, constantValue := 0 }, { name := "$assertionsDisabled", type := .boolean, accessFlags := 4120, slot := 3, constantValue := 0 }]
  methods := #[k11m0, k11m1, k11m2, k11m3]
  instanceTypes := #[]
  staticTypes := #[.int, .int, .int, .boolean]
  resolved := Array.replicate 635 none
  statics := none }

def pool12 : Array CpInfo := pool [(4, .class_ 6), (1, u "java/lang/Object"), (0, u "<init>"), (0, u "()V"), (5, .class_ 16), (1, u "java/lang/StringLatin1"), (104, u "$assertionsDisabled"), (0, u "Z"), (98, .class_ 223), (1, u "java/lang/StringLatin1$LinesSpliterator"), (166, .class_ 391), (0, u "java/lang/StringLatin1$CharsSpliterator")] 3

def k12m0 : Method := { name := "<init>", desc := "()V", sig := { parameters := [], returnType := none }, accessFlags := 0, code := none }
/-- java/lang/StringLatin1 -/
def k12 : Class := { plain "java/lang/StringLatin1" (some 0) with
  accessFlags := 48
  interfaces := #[]
  cf := some (fileOf pool12 14 #[.nestMembers #[390, 221]] #[{ accessFlags := 0, nameIndex := 7, descriptorIndex := 8, attributes := #[] }] 48 4 #[] #[{ accessFlags := 4120, nameIndex := 121, descriptorIndex := 122, attributes := #[] }])
  fields := #[{ name := "$assertionsDisabled", type := .boolean, accessFlags := 4120, slot := 0, constantValue := 0 }]
  methods := #[k12m0]
  instanceTypes := #[]
  staticTypes := #[.boolean]
  resolved := Array.replicate 395 none
  statics := none }

def pool13 : Array CpInfo := pool [(2, .class_ 4), (1, u "java/lang/Object"), (0, u "<init>"), (0, u "()V"), (17, .class_ 26), (1, u "jdk/internal/util/Preconditions"), (28, .class_ 56), (0, u "jdk/internal/util/Preconditions$4"), (57, .class_ 115), (0, u "jdk/internal/util/Preconditions$1"), (7, u "SIOOBE_FORMATTER"), (0, u "Ljava/util/function/BiFunction;"), (0, .class_ 126), (0, u "jdk/internal/util/Preconditions$2"), (3, u "AIOOBE_FORMATTER"), (0, .class_ 132), (0, u "jdk/internal/util/Preconditions$3"), (3, u "IOOBE_FORMATTER")] 57

def k13m0 : Method := { name := "<init>", desc := "()V", sig := { parameters := [], returnType := none }, accessFlags := 1, code := none }
/-- jdk/internal/util/Preconditions -/
def k13 : Class := { plain "jdk/internal/util/Preconditions" (some 0) with
  accessFlags := 33
  interfaces := #[]
  cf := some (fileOf pool13 24 #[.nestMembers #[55, 131, 125, 114]] #[{ accessFlags := 1, nameIndex := 5, descriptorIndex := 6, attributes := #[] }] 33 2 #[] #[{ accessFlags := 25, nameIndex := 123, descriptorIndex := 124, attributes := #[] }, { accessFlags := 25, nameIndex := 130, descriptorIndex := 124, attributes := #[] }, { accessFlags := 25, nameIndex := 136, descriptorIndex := 124, attributes := #[] }])
  fields := #[{ name := "SIOOBE_FORMATTER", type := (.object "java/util/function/BiFunction"), accessFlags := 25, slot := 0, constantValue := 0 }, { name := "AIOOBE_FORMATTER", type := (.object "java/util/function/BiFunction"), accessFlags := 25, slot := 1, constantValue := 0 }, { name := "IOOBE_FORMATTER", type := (.object "java/util/function/BiFunction"), accessFlags := 25, slot := 2, constantValue := 0 }]
  methods := #[k13m0]
  instanceTypes := #[]
  staticTypes := #[(.object "java/util/function/BiFunction"), (.object "java/util/function/BiFunction"), (.object "java/util/function/BiFunction")]
  resolved := Array.replicate 194 none
  statics := some 2 }

def pool14 : Array CpInfo := pool [(9, u "<init>"), (6, .class_ 18), (1, u "java/lang/Object"), (0, u "()V"), (1, .class_ 23), (1, u "jdk/internal/util/ArraysSupport"), (0, u "LOG2_ARRAY_LONG_INDEX_SCALE"), (0, u "I"), (2, u "U"), (0, u "Ljdk/internal/misc/Unsafe;"), (8, u "BIG_ENDIAN"), (0, u "Z"), (8, u "LOG2_BYTE_BIT_SIZE"), (4, u "LOG2_ARRAY_INT_INDEX_SCALE"), (54, u "JLA"), (0, u "Ljdk/internal/access/JavaLangAccess;"), (11, u "LOG2_ARRAY_BOOLEAN_INDEX_SCALE"), (9, u "LOG2_ARRAY_BYTE_INDEX_SCALE"), (5, u "LOG2_ARRAY_CHAR_INDEX_SCALE"), (5, u "LOG2_ARRAY_SHORT_INDEX_SCALE"), (18, u "LOG2_ARRAY_FLOAT_INDEX_SCALE"), (24, u "LOG2_ARRAY_DOUBLE_INDEX_SCALE"), (89, u "T_BOOLEAN"), (2, u "T_CHAR"), (1, u "T_FLOAT"), (1, u "T_DOUBLE"), (1, u "T_BYTE"), (1, u "T_SHORT"), (1, u "T_INT"), (1, u "T_LONG"), (1, u "SOFT_MAX_ARRAY_LENGTH")] 83

def k14m0 : Method := { name := "<init>", desc := "()V", sig := { parameters := [], returnType := none }, accessFlags := 2, code := none }
/-- jdk/internal/util/ArraysSupport -/
def k14 : Class := { plain "jdk/internal/util/ArraysSupport" (some 0) with
  accessFlags := 33
  interfaces := #[]
  cf := some (fileOf pool14 21 #[] #[{ accessFlags := 2, nameIndex := 9, descriptorIndex := 19, attributes := #[] }] 33 16 #[] #[{ accessFlags := 24, nameIndex := 28, descriptorIndex := 29, attributes := #[] }, { accessFlags := 26, nameIndex := 38, descriptorIndex := 39, attributes := #[] }, { accessFlags := 25, nameIndex := 121, descriptorIndex := 25, attributes := #[] }, { accessFlags := 25, nameIndex := 131, descriptorIndex := 25, attributes := #[] }, { accessFlags := 25, nameIndex := 137, descriptorIndex := 25, attributes := #[] }, { accessFlags := 25, nameIndex := 143, descriptorIndex := 25, attributes := #[] }, { accessFlags := 25, nameIndex := 53, descriptorIndex := 25, attributes := #[] }, { accessFlags := 25, nameIndex := 24, descriptorIndex := 25, attributes := #[] }, { accessFlags := 25, nameIndex := 162, descriptorIndex := 25, attributes := #[] }, { accessFlags := 25, nameIndex := 187, descriptorIndex := 25, attributes := #[] }, { accessFlags := 26, nameIndex := 48, descriptorIndex := 25, attributes := #[] }, { accessFlags := 25, nameIndex := 277, descriptorIndex := 25, attributes := #[] }, { accessFlags := 25, nameIndex := 280, descriptorIndex := 25, attributes := #[] }, { accessFlags := 25, nameIndex := 282, descriptorIndex := 25, attributes := #[] }, { accessFlags := 25, nameIndex := 284, descriptorIndex := 25, attributes := #[] }, { accessFlags := 25, nameIndex := 286, descriptorIndex := 25, attributes := #[] }, { accessFlags := 25, nameIndex := 288, descriptorIndex := 25, attributes := #[] }, { accessFlags := 25, nameIndex := 290, descriptorIndex := 25, attributes := #[] }, { accessFlags := 25, nameIndex := 292, descriptorIndex := 25, attributes := #[] }, { accessFlags := 26, nameIndex := 108, descriptorIndex := 109, attributes := #[] }, { accessFlags := 25, nameIndex := 294, descriptorIndex := 25, attributes := #[] }])
  fields := #[{ name := "U", type := (.object "jdk/internal/misc/Unsafe"), accessFlags := 24, slot := 0, constantValue := 0 }, { name := "BIG_ENDIAN", type := .boolean, accessFlags := 26, slot := 1, constantValue := 0 }, { name := "LOG2_ARRAY_BOOLEAN_INDEX_SCALE", type := .int, accessFlags := 25, slot := 2, constantValue := 0 }, { name := "LOG2_ARRAY_BYTE_INDEX_SCALE", type := .int, accessFlags := 25, slot := 3, constantValue := 0 }, { name := "LOG2_ARRAY_CHAR_INDEX_SCALE", type := .int, accessFlags := 25, slot := 4, constantValue := 0 }, { name := "LOG2_ARRAY_SHORT_INDEX_SCALE", type := .int, accessFlags := 25, slot := 5, constantValue := 0 }, { name := "LOG2_ARRAY_INT_INDEX_SCALE", type := .int, accessFlags := 25, slot := 6, constantValue := 0 }, { name := "LOG2_ARRAY_LONG_INDEX_SCALE", type := .int, accessFlags := 25, slot := 7, constantValue := 0 }, { name := "LOG2_ARRAY_FLOAT_INDEX_SCALE", type := .int, accessFlags := 25, slot := 8, constantValue := 0 }, { name := "LOG2_ARRAY_DOUBLE_INDEX_SCALE", type := .int, accessFlags := 25, slot := 9, constantValue := 0 }, { name := "LOG2_BYTE_BIT_SIZE", type := .int, accessFlags := 26, slot := 10, constantValue := 0 }, { name := "T_BOOLEAN", type := .int, accessFlags := 25, slot := 11, constantValue := 0 }, { name := "T_CHAR", type := .int, accessFlags := 25, slot := 12, constantValue := 0 }, { name := "T_FLOAT", type := .int, accessFlags := 25, slot := 13, constantValue := 0 }, { name := "T_DOUBLE", type := .int, accessFlags := 25, slot := 14, constantValue := 0 }, { name := "T_BYTE", type := .int, accessFlags := 25, slot := 15, constantValue := 0 }, { name := "T_SHORT", type := .int, accessFlags := 25, slot := 16, constantValue := 0 }, { name := "T_INT", type := .int, accessFlags := 25, slot := 17, constantValue := 0 }, { name := "T_LONG", type := .int, accessFlags := 25, slot := 18, constantValue := 0 }, { name := "JLA", type := (.object "jdk/internal/access/JavaLangAccess"), accessFlags := 26, slot := 19, constantValue := 0 }, { name := "SOFT_MAX_ARRAY_LENGTH", type := .int, accessFlags := 25, slot := 20, constantValue := 0 }]
  methods := #[k14m0]
  instanceTypes := #[]
  staticTypes := #[(.object "jdk/internal/misc/Unsafe"), .boolean, .int, .int, .int, .int, .int, .int, .int, .int, .int, .int, .int, .int, .int, .int, .int, .int, .int, (.object "jdk/internal/access/JavaLangAccess"), .int]
  resolved := Array.replicate 378 none
  statics := none }

def pool15 : Array CpInfo := pool [(1, u "java/lang/Cloneable"), (0, .class_ 1), (0, u "java/lang/Object"), (0, .class_ 3)] 3

/-- java/lang/Cloneable -/
def k15 : Class := { plain "java/lang/Cloneable" (some 0) with
  accessFlags := 1537
  interfaces := #[]
  cf := some (fileOf pool15 2 #[] #[] 1537 4 #[] #[])
  fields := #[]
  methods := #[]
  instanceTypes := #[]
  staticTypes := #[]
  resolved := Array.replicate 8 none
  statics := none }

/-- the primitive byte -/
def k16 : Class := { plain "byte" none with kind := .primitive 'B', accessFlags := 0x411 }
/-- [B -/
def k17 : Class := { plain "[B" (some 0) with kind := .array 16 .byte, interfaces := #[15, 4], accessFlags := 1041 }

/-- the primitive char -/
def k18 : Class := { plain "char" none with kind := .primitive 'C', accessFlags := 0x411 }
/-- [C -/
def k19 : Class := { plain "[C" (some 0) with kind := .array 18 .char, interfaces := #[15, 4], accessFlags := 1041 }

/-- the primitive int -/
def k20 : Class := { plain "int" none with kind := .primitive 'I', accessFlags := 0x411 }
/-- [I -/
def k21 : Class := { plain "[I" (some 0) with kind := .array 20 .int, interfaces := #[15, 4], accessFlags := 1041 }

def heap : Heap := #[{ cls := 6, slots := #[.ref 3, .ref 17, .ref 16, .ref 15, .ref 4, .ref 20, .ref 13, .ref 19, .ref 6, .ref 12, .ref 11, .ref 9, .ref 10, .ref 5, .ref 8, .ref 7, .ref 18, .ref 22, .ref 14, .ref 21, .null], vm := .statics 6 },
  { cls := 10, slots := #[.long 0, .int 1, .null, .int 0, .null, .int 0, .int 0], vm := .statics 10 },
  { cls := 13, slots := #[.null, .null, .null], vm := .statics 13 },
  { cls := 6, slots := #[.null, .int 0, .int 0, .null], vm := .none },
  { cls := 6, slots := #[.null, .int 0, .int 0, .null], vm := .none },
  { cls := 6, slots := #[.null, .int 0, .int 0, .null], vm := .none },
  { cls := 6, slots := #[.null, .int 0, .int 0, .null], vm := .none },
  { cls := 6, slots := #[.null, .int 0, .int 0, .null], vm := .none },
  { cls := 6, slots := #[.null, .int 0, .int 0, .null], vm := .none },
  { cls := 6, slots := #[.null, .int 0, .int 0, .null], vm := .none },
  { cls := 6, slots := #[.null, .int 0, .int 0, .null], vm := .none },
  { cls := 6, slots := #[.null, .int 0, .int 0, .null], vm := .none },
  { cls := 6, slots := #[.null, .int 0, .int 0, .null], vm := .none },
  { cls := 6, slots := #[.null, .int 0, .int 0, .null], vm := .none },
  { cls := 6, slots := #[.null, .int 0, .int 0, .null], vm := .none },
  { cls := 6, slots := #[.null, .int 0, .int 0, .null], vm := .none },
  { cls := 6, slots := #[.null, .int 0, .int 0, .null], vm := .none },
  { cls := 6, slots := #[.null, .int 0, .int 0, .null], vm := .none },
  { cls := 6, slots := #[.null, .int 0, .int 0, .null], vm := .none },
  { cls := 6, slots := #[.null, .int 0, .int 0, .null], vm := .none },
  { cls := 6, slots := #[.null, .int 0, .int 0, .null], vm := .none },
  { cls := 6, slots := #[.null, .int 0, .int 0, .null], vm := .none },
  { cls := 6, slots := #[.null, .int 0, .int 0, .null], vm := .none }]
def classes : Array Class := #[k0, k1, k2, k3, k4, k5, k6, k7, k8, k9, k10, k11, k12, k13, k14, k15, k16, k17, k18, k19, k20, k21]
def interned : List (Array UInt16 × Addr) := []
def slotsUsed : Nat := 111
def theMethod : MethodId := ⟨1, 2⟩
def args0 : Array Value := #[.int 5, .int 5, .int 5, .int 5, .int 5, .int 5]
def aboutOver (below : List Frame) : State where
  vm := { classes := classes, interned := interned.toArray }
  heap := heap
  slotsUsed := slotsUsed
  threads := #[{ frames := .invoking theMethod args0 :: below }]
def below0 : List Frame := [.native { method := ⟨0, 0⟩, args := #[] }]
def about1 : State := aboutOver below0
def p0 : Program := .bare "" "" ""
def e0 : Env := launch0.env 0 0 0
theorem w_frames : about1.frames = Frame.invoking theMethod args0 :: below0 := rfl
set_option maxRecDepth 65536 in
theorem w_args : argsFit about1.vm theMethod args0 = true := by decide +kernel
set_option maxRecDepth 65536 in
theorem w_heap : heapFits about1 = true := by decide +kernel
set_option maxRecDepth 65536 in
theorem w_runnable : about1.curStatus? = some .runnable := by decide +kernel
set_option maxRecDepth 65536 in
theorem w_alone : about1.alone = true := by decide +kernel
set_option maxRecDepth 65536 in
theorem w_named : about1.methodNamed? x = some theMethod := by decide +kernel
set_option maxRecDepth 65536 in
theorem w_hears : about1.hears theMethod below0 = true := by decide +kernel
set_option maxRecDepth 65536 in
theorem w_ripe : about1.ripe theMethod args0 below0 = true := by decide +kernel
theorem w_running : about1.status = .running := rfl
set_option maxRecDepth 65536 in
theorem w_room : about1.hasRoom e0.platform room_1 = true :=
  launch0.hasRoom_least _ room_1 (by decide +kernel) (by decide +kernel) (by decide +kernel) (by decide +kernel) (by decide +kernel) (by decide +kernel)
theorem allAtoms_all (ts : List Jvm.Cond) (a : Array Jvm.Value) (st : Jvm.State) : (allAtoms ts).before a st = ts.all (fun c => c.before a st) := by
  induction ts with
  | nil => rfl
  | cons c t ih =>
    show (Jvm.Cond.and c (allAtoms t)).before a st = _
    rw [Jvm.Cond.before_and, ih, List.all_cons]
def words1 : List Jvm.Cond := Jvm.Cond.code x code maxLocals ret :: tables_1
/-- a 'code' word, met by the world's own term for the bytes: nothing is compared byte by byte -/
theorem code_word {y : MethodName} {bytes : ByteArray} {mx : Nat} {rt : Option FieldType} {a : Array Value} {s : State} {m : MethodId} {meth : Method} {c : Code} (h1 : s.methodNamed? y = some m) (h2 : s.vm.method? m = some meth) (h3 : meth.code = some c) (h4 : c.code = bytes)
    (h5 : (c.maxLocals == mx && c.exceptionTable.isEmpty && decide (c.maxStack ≤ mostOperands) && decide (meth.sig.returnType = rt) && !meth.locks && decide (parseMethodDescriptor y.desc = some meth.sig)) = true) : (Jvm.Cond.code y bytes mx rt).before a s = true := by
  simp only [Bool.and_eq_true, beq_iff_eq, Bool.not_eq_true', decide_eq_true_eq] at h5
  obtain ⟨⟨⟨⟨⟨g1, g2⟩, g3⟩, g4⟩, g5⟩, g6⟩ := h5
  simp [Cond.before, Cond.holds, Cond.value, h1, h2, h3, h4, g1, g2, g3, g4, g5, g6]
def isCode : Jvm.Cond → Bool
  | .code _ _ _ _ => true
  | _ => false
theorem all_split {L : List Jvm.Cond} {P : Jvm.Cond → Bool} (h1 : L.all (fun c => isCode c || P c) = true) (h2 : ∀ c ∈ L.filter isCode, P c = true) : L.all P = true := by
  refine List.all_eq_true.mpr fun c hc => ?_
  have h := List.all_eq_true.mp h1 c hc
  rcases Bool.eq_false_or_eq_true (isCode c) with hi | hi
  · exact h2 c (List.mem_filter.mpr ⟨hc, hi⟩)
  · simpa [hi] using h
set_option maxRecDepth 65536 in
theorem w_c0 : (Jvm.Cond.code x code maxLocals ret).before args0 about1 = true := code_word (m := ⟨1, 2⟩) (meth := k1m2) (c := k1c2) (by decide +kernel) rfl rfl rfl (by decide +kernel)
set_option maxRecDepth 65536 in
theorem w_c1 : (Jvm.Cond.code ({ cls := "com/example/interfold/interfold/fidl/TokenSetPinLaw", name := "kindOf", desc := "(I)Lcom/example/interfold/interfold/fidl/Token$Kind;" } : Jvm.MethodName) method_2_code (1 : Nat) (Option.some (Jvm.ClassFile.FieldType.object "com/example/interfold/interfold/fidl/Token$Kind"))).before args0 about1 = true := code_word (m := ⟨1, 1⟩) (meth := k1m1) (c := k1c1) (by decide +kernel) rfl rfl rfl (by decide +kernel)
set_option maxRecDepth 65536 in
theorem w_c2 : (Jvm.Cond.code ({ cls := "com/example/interfold/interfold/fidl/Token", name := "<init>", desc := "()V" } : Jvm.MethodName) prog_109_method_1_code (1 : Nat) (Option.none : Option Jvm.ClassFile.FieldType)).before args0 about1 = true := code_word (m := ⟨7, 0⟩) (meth := k7m0) (c := k7c0) (by decide +kernel) rfl rfl rfl (by decide +kernel)
set_option maxRecDepth 65536 in
theorem w_c3 : (Jvm.Cond.code ({ cls := "java/lang/Object", name := "<init>", desc := "()V" } : Jvm.MethodName) object_method_1_code (1 : Nat) (Option.none : Option Jvm.ClassFile.FieldType)).before args0 about1 = true := code_word (m := ⟨0, 0⟩) (meth := k0m0) (c := k0c0) (by decide +kernel) rfl rfl rfl (by decide +kernel)
set_option maxRecDepth 65536 in
theorem w_c4 : (Jvm.Cond.code ({ cls := "com/example/interfold/interfold/fidl/Token", name := "set", desc := "(Lcom/example/interfold/interfold/fidl/Token$Kind;IILjava/lang/String;)V" } : Jvm.MethodName) prog_109_method_2_code (5 : Nat) (Option.none : Option Jvm.ClassFile.FieldType)).before args0 about1 = true := code_word (m := ⟨7, 1⟩) (meth := k7m1) (c := k7c1) (by decide +kernel) rfl rfl rfl (by decide +kernel)
set_option maxRecDepth 65536 in
theorem w_c5 : (Jvm.Cond.code ({ cls := "com/example/interfold/interfold/fidl/Token", name := "kind", desc := "()Lcom/example/interfold/interfold/fidl/Token$Kind;" } : Jvm.MethodName) prog_109_method_3_code (1 : Nat) (Option.some (Jvm.ClassFile.FieldType.object "com/example/interfold/interfold/fidl/Token$Kind"))).before args0 about1 = true := code_word (m := ⟨7, 2⟩) (meth := k7m2) (c := k7c2) (by decide +kernel) rfl rfl rfl (by decide +kernel)
set_option maxRecDepth 65536 in
theorem w_c6 : (Jvm.Cond.code ({ cls := "com/example/interfold/interfold/fidl/Token", name := "start", desc := "()I" } : Jvm.MethodName) prog_109_method_4_code (1 : Nat) (Option.some Jvm.ClassFile.FieldType.int)).before args0 about1 = true := code_word (m := ⟨7, 3⟩) (meth := k7m3) (c := k7c3) (by decide +kernel) rfl rfl rfl (by decide +kernel)
set_option maxRecDepth 65536 in
theorem w_c7 : (Jvm.Cond.code ({ cls := "com/example/interfold/interfold/fidl/Token", name := "end", desc := "()I" } : Jvm.MethodName) prog_109_method_5_code (1 : Nat) (Option.some Jvm.ClassFile.FieldType.int)).before args0 about1 = true := code_word (m := ⟨7, 4⟩) (meth := k7m4) (c := k7c4) (by decide +kernel) rfl rfl rfl (by decide +kernel)
set_option maxRecDepth 65536 in
theorem w_c8 : (Jvm.Cond.code ({ cls := "com/example/interfold/interfold/fidl/Token", name := "value", desc := "()Ljava/lang/String;" } : Jvm.MethodName) prog_109_method_6_code (1 : Nat) (Option.some (Jvm.ClassFile.FieldType.object "java/lang/String"))).before args0 about1 = true := code_word (m := ⟨7, 5⟩) (meth := k7m5) (c := k7c5) (by decide +kernel) rfl rfl rfl (by decide +kernel)
set_option maxRecDepth 65536 in
theorem w_c9 : (Jvm.Cond.code ({ cls := "java/lang/String", name := "<init>", desc := "([C)V" } : Jvm.MethodName) jdk_42_method_3_code (2 : Nat) (Option.none : Option Jvm.ClassFile.FieldType)).before args0 about1 = true := code_word (m := ⟨10, 1⟩) (meth := k10m1) (c := k10c1) (by decide +kernel) rfl rfl rfl (by decide +kernel)
set_option maxRecDepth 65536 in
theorem w_c10 : (Jvm.Cond.code ({ cls := "java/lang/String", name := "<init>", desc := "([CIILjava/lang/Void;)V" } : Jvm.MethodName) jdk_42_method_149_code (6 : Nat) (Option.none : Option Jvm.ClassFile.FieldType)).before args0 about1 = true := code_word (m := ⟨10, 2⟩) (meth := k10m2) (c := k10c2) (by decide +kernel) rfl rfl rfl (by decide +kernel)
set_option maxRecDepth 65536 in
theorem w_c11 : (Jvm.Cond.code ({ cls := "java/lang/StringUTF16", name := "compress", desc := "([CII)[B" } : Jvm.MethodName) jdk_52_method_16_code (6 : Nat) (Option.some (Jvm.ClassFile.FieldType.array Jvm.ClassFile.FieldType.byte))).before args0 about1 = true := code_word (m := ⟨11, 2⟩) (meth := k11m2) (c := k11c2) (by decide +kernel) rfl rfl rfl (by decide +kernel)
set_option maxRecDepth 65536 in
theorem w_c12 : (Jvm.Cond.code ({ cls := "java/lang/StringUTF16", name := "compress", desc := "([CI[BII)I" } : Jvm.MethodName) jdk_52_method_21_code (7 : Nat) (Option.some Jvm.ClassFile.FieldType.int)).before args0 about1 = true := code_word (m := ⟨11, 3⟩) (meth := k11m3) (c := k11c3) (by decide +kernel) rfl rfl rfl (by decide +kernel)
set_option maxRecDepth 65536 in
theorem w_c13 : (Jvm.Cond.code ({ cls := "java/lang/StringUTF16", name := "coderFromArrayLen", desc := "([BI)B" } : Jvm.MethodName) jdk_52_method_15_code (2 : Nat) (Option.some Jvm.ClassFile.FieldType.byte)).before args0 about1 = true := code_word (m := ⟨11, 1⟩) (meth := k11m1) (c := k11c1) (by decide +kernel) rfl rfl rfl (by decide +kernel)
def codes1 : List Jvm.Cond := [Jvm.Cond.code x code maxLocals ret, Jvm.Cond.code ({ cls := "com/example/interfold/interfold/fidl/TokenSetPinLaw", name := "kindOf", desc := "(I)Lcom/example/interfold/interfold/fidl/Token$Kind;" } : Jvm.MethodName) method_2_code (1 : Nat) (Option.some (Jvm.ClassFile.FieldType.object "com/example/interfold/interfold/fidl/Token$Kind")), Jvm.Cond.code ({ cls := "com/example/interfold/interfold/fidl/Token", name := "<init>", desc := "()V" } : Jvm.MethodName) prog_109_method_1_code (1 : Nat) (Option.none : Option Jvm.ClassFile.FieldType), Jvm.Cond.code ({ cls := "java/lang/Object", name := "<init>", desc := "()V" } : Jvm.MethodName) object_method_1_code (1 : Nat) (Option.none : Option Jvm.ClassFile.FieldType), Jvm.Cond.code ({ cls := "com/example/interfold/interfold/fidl/Token", name := "set", desc := "(Lcom/example/interfold/interfold/fidl/Token$Kind;IILjava/lang/String;)V" } : Jvm.MethodName) prog_109_method_2_code (5 : Nat) (Option.none : Option Jvm.ClassFile.FieldType), Jvm.Cond.code ({ cls := "com/example/interfold/interfold/fidl/Token", name := "kind", desc := "()Lcom/example/interfold/interfold/fidl/Token$Kind;" } : Jvm.MethodName) prog_109_method_3_code (1 : Nat) (Option.some (Jvm.ClassFile.FieldType.object "com/example/interfold/interfold/fidl/Token$Kind")), Jvm.Cond.code ({ cls := "com/example/interfold/interfold/fidl/Token", name := "start", desc := "()I" } : Jvm.MethodName) prog_109_method_4_code (1 : Nat) (Option.some Jvm.ClassFile.FieldType.int), Jvm.Cond.code ({ cls := "com/example/interfold/interfold/fidl/Token", name := "end", desc := "()I" } : Jvm.MethodName) prog_109_method_5_code (1 : Nat) (Option.some Jvm.ClassFile.FieldType.int), Jvm.Cond.code ({ cls := "com/example/interfold/interfold/fidl/Token", name := "value", desc := "()Ljava/lang/String;" } : Jvm.MethodName) prog_109_method_6_code (1 : Nat) (Option.some (Jvm.ClassFile.FieldType.object "java/lang/String")), Jvm.Cond.code ({ cls := "java/lang/String", name := "<init>", desc := "([C)V" } : Jvm.MethodName) jdk_42_method_3_code (2 : Nat) (Option.none : Option Jvm.ClassFile.FieldType), Jvm.Cond.code ({ cls := "java/lang/String", name := "<init>", desc := "([CIILjava/lang/Void;)V" } : Jvm.MethodName) jdk_42_method_149_code (6 : Nat) (Option.none : Option Jvm.ClassFile.FieldType), Jvm.Cond.code ({ cls := "java/lang/StringUTF16", name := "compress", desc := "([CII)[B" } : Jvm.MethodName) jdk_52_method_16_code (6 : Nat) (Option.some (Jvm.ClassFile.FieldType.array Jvm.ClassFile.FieldType.byte)), Jvm.Cond.code ({ cls := "java/lang/StringUTF16", name := "compress", desc := "([CI[BII)I" } : Jvm.MethodName) jdk_52_method_21_code (7 : Nat) (Option.some Jvm.ClassFile.FieldType.int), Jvm.Cond.code ({ cls := "java/lang/StringUTF16", name := "coderFromArrayLen", desc := "([BI)B" } : Jvm.MethodName) jdk_52_method_15_code (2 : Nat) (Option.some Jvm.ClassFile.FieldType.byte)]
set_option maxRecDepth 65536 in
theorem codes_eq : words1.filter isCode = codes1 := rfl
theorem w_codes : ∀ c ∈ words1.filter isCode, c.before args0 about1 = true := by
  rw [codes_eq]
  intro c hc
  simp only [codes1, List.mem_cons, List.not_mem_nil, or_false] at hc
  rcases hc with rfl | rfl | rfl | rfl | rfl | rfl | rfl | rfl | rfl | rfl | rfl | rfl | rfl | rfl
  · exact w_c0
  · exact w_c1
  · exact w_c2
  · exact w_c3
  · exact w_c4
  · exact w_c5
  · exact w_c6
  · exact w_c7
  · exact w_c8
  · exact w_c9
  · exact w_c10
  · exact w_c11
  · exact w_c12
  · exact w_c13
set_option maxRecDepth 65536 in
theorem w_t1 : (words1.take 24).all (fun c => isCode c || c.before args0 about1) = true := by decide +kernel
set_option maxRecDepth 65536 in
theorem w_t2 : ((words1.drop 24).take 24).all (fun c => isCode c || c.before args0 about1) = true := by decide +kernel
set_option maxRecDepth 65536 in
theorem w_t3 : (((words1.drop 24).drop 24).take 24).all (fun c => isCode c || c.before args0 about1) = true := by decide +kernel
set_option maxRecDepth 65536 in
theorem w_t4 : ((((words1.drop 24).drop 24).drop 24).take 24).all (fun c => isCode c || c.before args0 about1) = true := by decide +kernel
set_option maxRecDepth 65536 in
theorem w_t5 : ((((words1.drop 24).drop 24).drop 24).drop 24).all (fun c => isCode c || c.before args0 about1) = true := by decide +kernel
theorem w_tables : (allAtoms (Jvm.Cond.code x code maxLocals ret :: tables_1)).before args0 about1 = true := by
  rw [allAtoms_all]
  show words1.all (fun c => c.before args0 about1) = true
  refine all_split ?_ w_codes
  rw [← List.take_append_drop 24 words1, List.all_append, w_t1, ← List.take_append_drop 24 (words1.drop 24), List.all_append, w_t2, ← List.take_append_drop 24 ((words1.drop 24).drop 24), List.all_append, w_t3, ← List.take_append_drop 24 (((words1.drop 24).drop 24).drop 24), List.all_append, w_t4, w_t5]
  rfl
set_option maxRecDepth 65536 in
theorem w_rest : rest_1_c.before args0 about1 = true := by decide +kernel
set_option maxRecDepth 65536 in
theorem w_case : (Jvm.Cond.and given_1 narrow_1).before args0 about1 = true := by decide +kernel
theorem w_applies : (headSpec (Jvm.Cond.code x code maxLocals ret :: tables_1) room_1).applies x e0.platform about1 = true :=
  (Spec.applies_iff w_frames).mpr ⟨w_running, w_runnable, w_alone, w_named, w_hears, w_ripe, w_room, w_tables⟩
theorem atStart : AtStart classFile x code maxLocals ret World_1 tables_1 room_1 Calls_1 rest_1 Pre_1 launch0 p0 e0 about1 theMethod args0 below0 :=
  ⟨lists_1, trivial, launch0.admits_env _ _ _, launch0.least_env, fairChoices_fair.cas, fairChoices_fair.clock, w_frames, w_args, w_heap, w_applies, trivial, w_rest, w_case⟩
end start1
theorem witness_1 : WitnessClaimed_1 := ⟨start1.p0, start1.e0, start1.about1, start1.theMethod, start1.args0, start1.below0, start1.atStart⟩
end Jvm.Pilot.@@N@@

import JvmDerived
import JvmDerived.Pilot.@@N@@Statement
import JvmDerived.Pilot.@@N@@Code
set_option linter.unusedVariables false
set_option linter.unusedSimpArgs false
@@BLOCK:NumsL.lean.txt@@
/- laws to paste: Road.backV (cut by pick.py; bodies as the Statement names them) -/
namespace Jvm.Pilot.@@N@@
namespace StrChars
open Jvm Sem ClassFile Op Lib Jvm.Stand Jvm.Free.XT Jvm.Free.ALB Jvm.Free.JM Jvm.Free
open Jvm.Lib.Cold (StaticIs)
/-- a char array whose places are chars -/
def Ch (a : Addr) (A : Cell) (U : State) : Prop := Arr .char a A U ∧ Typed .char A
theorem Ch.mv {a : Addr} {A : Cell} {U U' : State} (h : Ch a A U) (hal : U.vm.Alike U'.vm) (hh : U'.heap = U.heap) : Ch a A U' := ⟨h.1.mv hal hh, h.2⟩
theorem Ch.keep {a : Addr} {A : Cell} {U U' : State} (h : Ch a A U) (hal : U.vm.Alike U'.vm) (hk : U'.heap[a]? = some A) : Ch a A U' := ⟨h.1.keep hal hk, h.2⟩
/-- what place i of a char[]'s cell holds -/
def cv (A : Cell) (i : Nat) : Int32 := match A.slots[i]? with | some (.int x) => x | _ => 0
theorem Ch.get {a : Addr} {A : Cell} {U : State} (h : Ch a A U) {i : Nat} (hi : i < A.slots.size) : A.slots[i]? = some (.int (cv A i)) := by
  have e := Array.getElem?_eq_getElem hi
  have f := h.2 i _ e
  unfold cv; rw [e]
  generalize A.slots[i] = v at f
  cases v <;> simp [fits] at f ⊢
/-- the byte that i2b leaves of a char -/
def lo8 (x : Int32) : Int32 := x.toInt8.toInt32
theorem fits_lo8 (y : Int32) : fits .byte (.int (lo8 y)) = true := by
  have h1 := y.toInt8.le_toInt
  have h2 := y.toInt8.toInt_lt
  simp only [lo8, fits, Bool.and_eq_true, decide_eq_true_eq, Int32.le_iff_toInt_le, Int8.toInt_toInt32, show (-128 : Int32).toInt = -128 from by decide, show (127 : Int32).toInt = 127 from by decide]
  omega
/-- A' is A but that each place j of lo .. hi - 1 holds f j -/
def Laid (A A' : Cell) (lo hi : Nat) (f : Nat → Value) : Prop := A'.cls = A.cls ∧ A'.vm = A.vm ∧ A'.slots.size = A.slots.size ∧ ∀ i, A'.slots[i]? = if lo ≤ i ∧ i < hi then some (f i) else A.slots[i]?
theorem Laid.zero (A : Cell) (lo : Nat) (f : Nat → Value) : Laid A A lo (lo + 0) f := ⟨rfl, rfl, rfl, fun i => by rw [if_neg (by omega)]⟩
theorem Laid.step {A Ak : Cell} {lo k : Nat} {f : Nat → Value} {v : Value} (h : Laid A Ak lo k f) (hlo : lo ≤ k) (hk : k < Ak.slots.size) (hv : v = f k) : Laid A (Ak.setSlot k v) lo (k + 1) f := by
  refine ⟨h.1, h.2.1, by simpa [Cell.setSlot] using h.2.2.1, fun i => ?_⟩
  by_cases e : k = i
  · subst e; rw [Cell.slots_setSlot_self v hk, if_pos (by omega), hv]
  · rw [Cell.slots_setSlot_ne v e, h.2.2.2 i]
    by_cases q : lo ≤ i ∧ i < k
    · rw [if_pos q, if_pos (by omega)]
    · rw [if_neg q, if_neg (by omega)]
def U16 : String := "java/lang/StringUTF16"
namespace Cmp5
def yN : MethodName := ⟨"java/lang/StringUTF16", "compress", "([CI[BII)I"⟩
abbrev yB : ByteArray := jdk_52_method_21_code
theorem d0 : decode yB 0 = .ok (.iconst 0, 1) := by decide +kernel
theorem d1 : decode yB 1 = .ok (.istore 5, 2) := by decide +kernel
theorem d3 : decode yB 3 = .ok (.iload 5, 2) := by decide +kernel
theorem d5 : decode yB 5 = .ok (.iload 4, 2) := by decide +kernel
theorem d7 : decode yB 7 = .ok (.if_icmp (.ge) 37, 3) := by decide +kernel
theorem d10 : decode yB 10 = .ok (.aload_n 0, 1) := by decide +kernel
theorem d11 : decode yB 11 = .ok (.iload_n 1, 1) := by decide +kernel
theorem d12 : decode yB 12 = .ok (.caload, 1) := by decide +kernel
theorem d13 : decode yB 13 = .ok (.istore 6, 2) := by decide +kernel
theorem d15 : decode yB 15 = .ok (.iload 6, 2) := by decide +kernel
theorem d17 : decode yB 17 = .ok (.sipush 255, 3) := by decide +kernel
theorem d20 : decode yB 20 = .ok (.if_icmp (.le) 6, 3) := by decide +kernel
theorem d26 : decode yB 26 = .ok (.aload_n 2, 1) := by decide +kernel
theorem d27 : decode yB 27 = .ok (.iload_n 3, 1) := by decide +kernel
theorem d28 : decode yB 28 = .ok (.iload 6, 2) := by decide +kernel
theorem d30 : decode yB 30 = .ok (.i2b, 1) := by decide +kernel
theorem d31 : decode yB 31 = .ok (.bastore, 1) := by decide +kernel
theorem d32 : decode yB 32 = .ok (.iinc 1 1, 3) := by decide +kernel
theorem d35 : decode yB 35 = .ok (.iinc 3 1, 3) := by decide +kernel
theorem d38 : decode yB 38 = .ok (.iinc 5 1, 3) := by decide +kernel
theorem d41 : decode yB 41 = .ok (.goto (-38), 3) := by decide +kernel
theorem d44 : decode yB 44 = .ok (.iload 4, 2) := by decide +kernel
theorem d46 : decode yB 46 = .ok (.ireturn, 1) := by decide +kernel
def site : List Cond := []
def tab : Cond := tabOf yN yB 7 (some .int) site
def P (b : Addr) (A : Cell) (d : Addr) (B : Cell) (o q len : Nat) (args : Array Value) (s : State) : Prop := args = #[.ref b, .int (Int32.ofNat o), .ref d, .int (Int32.ofNat q), .int (Int32.ofNat len)] ∧ Ch b A s ∧ Arr .byte d B s ∧ b ≠ d ∧ o + len ≤ A.slots.size ∧ q + len ≤ B.slots.size ∧ ∀ i, i < len → ¬ 255 < cv A (o + i)
def E (b : Addr) (A : Cell) (d : Addr) (B : Cell) (o q len : Nat) (r : Option Value) (s u : State) : Prop := r = some (.int (Int32.ofNat len)) ∧ ∃ B', Put d B' s u ∧ Laid B B' q (q + len) (fun j => Value.int (lo8 (cv A (o + (j - q)))))
/-- no char of the range above 255: len; the places written hold each char's low byte -/
theorem law (l : Launch) (b : Addr) (A : Cell) (d : Addr) (B : Cell) (o q len : Nat) : Law l yN 5 5 0 0 yB 7 (some .int) site (P b A d B o q len) (E b A d B o q len) (copyLocs d q len) 0 0 := by
  refine Law.of_walk (plainFor_of_name (by decide +kernel)) (by decide +kernel) (by decide +kernel) (by decide) (fun _ _ h => by rw [h.1]; rfl) (fun _ U U' hal hh h => ⟨h.1, h.2.1.mv hal hh, h.2.2.1.mv hal hh, h.2.2.2⟩) (fun r U U' V V' h1 hal h2 h => ⟨h.1, h.2.elim fun B' q => ⟨B', q.1.mv h1 h2, q.2⟩⟩) ?_
  intro p e s m args below meth c s₁ X0 hexec hbytes hml hret hlk hnm hown hh0 W hP
  obtain ⟨rfl, hA, hB, hne, l1, l2, hp⟩ := hP
  have c1 : Steps p.tables e below (s₁.setTop (entryFrame m #[.ref b, .int (Int32.ofNat o), .ref d, .int (Int32.ofNat q), .int (Int32.ofNat len)] 7)) (s₁.setTop (mkF m 0 #[.val (.ref b), .val (.int (Int32.ofNat o)), .val (.ref d), .val (.int (Int32.ofNat q)), .val (.int (Int32.ofNat len)), .unset, .unset] [])) := entry rfl
  have hA0 := hA.1.mv X0.warmed.alike hh0
  have hB0 := hB.mv X0.warmed.alike hh0
  have a31 := hA.1.2.2.2
  have c2 : Steps p.tables e below (s₁.setTop (entryFrame m #[.ref b, .int (Int32.ofNat o), .ref d, .int (Int32.ofNat q), .int (Int32.ofNat len)] 7)) (s₁.setTop (mkF m 3 #[.val (.ref b), .val (.int (Int32.ofNat o)), .val (.ref d), .val (.int (Int32.ofNat q)), .val (.int (Int32.ofNat len)), .val (.int 0), .unset] [])) := c1.trans (by
    refine iconstV X0.here hexec rfl 0 (hb hbytes d0) (by decide) ?_
    refine XS.istore X0.here hexec rfl (hb hbytes d1) rfl rfl ?_
    exact Steps.refl _)
  have loop : ∀ (r i : Nat), i + r = len → ∀ (z : Slot), (z = .unset ∨ ∃ w, z = .val w ∧ w.category = 1) → ∀ (Tl : State) (Bk : Cell), Stand p l e { frames := 0, locals := 0, cells := 0, slots := 0 } s m #[.ref b, .int (Int32.ofNat o), .ref d, .int (Int32.ofNat q), .int (Int32.ofNat len)] below meth c Tl ([] ++ copyLocs d q i) 0 0 → Put d Bk s₁ Tl → Laid B Bk q (q + i) (fun j => Value.int (lo8 (cv A (o + (j - q))))) →
      Steps p.tables e below (s₁.setTop (entryFrame m #[.ref b, .int (Int32.ofNat o), .ref d, .int (Int32.ofNat q), .int (Int32.ofNat len)] 7)) (Tl.setTop (mkF m 3 #[.val (.ref b), .val (.int (Int32.ofNat (o + i))), .val (.ref d), .val (.int (Int32.ofNat (q + i))), .val (.int (Int32.ofNat len)), .val (.int (Int32.ofNat i)), z] [])) → ∃ (T' : State) (B' : Cell) (z' : Slot), Stand p l e { frames := 0, locals := 0, cells := 0, slots := 0 } s m #[.ref b, .int (Int32.ofNat o), .ref d, .int (Int32.ofNat q), .int (Int32.ofNat len)] below meth c T' ([] ++ copyLocs d q len) 0 0 ∧ Put d B' s₁ T' ∧ Laid B B' q (q + len) (fun j => Value.int (lo8 (cv A (o + (j - q))))) ∧
      Steps p.tables e below (s₁.setTop (entryFrame m #[.ref b, .int (Int32.ofNat o), .ref d, .int (Int32.ofNat q), .int (Int32.ofNat len)] 7)) (T'.setTop (mkF m 3 #[.val (.ref b), .val (.int (Int32.ofNat (o + len))), .val (.ref d), .val (.int (Int32.ofNat (q + len))), .val (.int (Int32.ofNat len)), .val (.int (Int32.ofNat len)), z'] [])) := by
    intro r
    induction r with
    | zero =>
      intro i hi z hz Tl Bk Xl pl fl cl
      have hil : i = len := by omega
      rw [hil] at Xl fl cl
      exact ⟨Tl, Bk, z, Xl, pl, fl, cl⟩
    | succ r ih =>
      intro i hi z hz Tl Bk Xl pl fl cl
      have all := X0.warmed.alike.symm.trans Xl.warmed.alike
      have hAl := hA0.keep all (pl.other hne hA0.1)
      have hBk := hB0.like all pl.1 fl.1 fl.2.1 fl.2.2.1
      have hlt : q + i < Bk.slots.size := by rw [fl.2.2.1]; omega
      have c3 : Steps p.tables e below (s₁.setTop (entryFrame m #[.ref b, .int (Int32.ofNat o), .ref d, .int (Int32.ofNat q), .int (Int32.ofNat len)] 7)) (Tl.setTop (mkF m 12 #[.val (.ref b), .val (.int (Int32.ofNat (o + i))), .val (.ref d), .val (.int (Int32.ofNat (q + i))), .val (.int (Int32.ofNat len)), .val (.int (Int32.ofNat i)), z] [.int (Int32.ofNat (o + i)), .ref b])) := cl.trans (by
        refine XS.iload Xl.here hexec rfl (hb hbytes d3) rfl ?_
        refine XS.iload Xl.here hexec rfl (hb hbytes d5) rfl ?_
        refine XS.icmpNo Xl.here hexec rfl (hb hbytes d7) rfl (ii_ge_f (lt32 (by omega) (by omega))) ?_
        refine XS.aloadN Xl.here hexec rfl (hb hbytes d10) rfl rfl ?_
        refine XS.iloadN Xl.here hexec rfl (hb hbytes d11) rfl ?_
        exact Steps.refl _)
      have c4 : Steps p.tables e below (s₁.setTop (entryFrame m #[.ref b, .int (Int32.ofNat o), .ref d, .int (Int32.ofNat q), .int (Int32.ofNat len)] 7)) (Tl.setTop (mkF m 13 #[.val (.ref b), .val (.int (Int32.ofNat (o + i))), .val (.ref d), .val (.int (Int32.ofNat (q + i))), .val (.int (Int32.ofNat len)), .val (.int (Int32.ofNat i)), z] [.int (cv A (o + i))])) := c3.trans (by
        refine Xl.aget hexec hAl rfl (hA.get (i := o + i) (by omega)) rfl rfl (hb hbytes d12) ?_
        exact Steps.refl _)
      have c5 : Steps p.tables e below (s₁.setTop (entryFrame m #[.ref b, .int (Int32.ofNat o), .ref d, .int (Int32.ofNat q), .int (Int32.ofNat len)] 7)) (Tl.setTop (mkF m 15 #[.val (.ref b), .val (.int (Int32.ofNat (o + i))), .val (.ref d), .val (.int (Int32.ofNat (q + i))), .val (.int (Int32.ofNat len)), .val (.int (Int32.ofNat i)), .val (.int (cv A (o + i)))] [])) := c4.trans (by
        refine XS.istoreS Xl.here hexec rfl (hb hbytes d13) rfl rfl hz ?_
        exact Steps.refl _)
      have c6 : Steps p.tables e below (s₁.setTop (entryFrame m #[.ref b, .int (Int32.ofNat o), .ref d, .int (Int32.ofNat q), .int (Int32.ofNat len)] 7)) (Tl.setTop (mkF m 31 #[.val (.ref b), .val (.int (Int32.ofNat (o + i))), .val (.ref d), .val (.int (Int32.ofNat (q + i))), .val (.int (Int32.ofNat len)), .val (.int (Int32.ofNat i)), .val (.int (cv A (o + i)))] [.int (lo8 (cv A (o + i))), .int (Int32.ofNat (q + i)), .ref d])) := c5.trans (by
        refine XS.iload Xl.here hexec rfl (hb hbytes d15) rfl ?_
        refine sipushV Xl.here hexec rfl 255 (hb hbytes d17) (by decide) ?_
        refine XS.icmpYes Xl.here hexec rfl (pc0 := 20) rfl (hb hbytes d20) rfl (ii_le_t (hp i (by omega))) (by decide) rfl ?_
        refine XS.aloadN Xl.here hexec rfl (hb hbytes d26) rfl rfl ?_
        refine XS.iloadN Xl.here hexec rfl (hb hbytes d27) rfl ?_
        refine XS.iload Xl.here hexec rfl (hb hbytes d28) rfl ?_
        refine i2b Xl.here hexec rfl (hb hbytes d30) rfl ?_
        exact Steps.refl _)
      obtain ⟨T7, X7, p7, st7⟩ := Xl.aput hexec hBk rfl hlt rfl (fits_lo8 (cv A (o + i))) (g := (mkF m 31 #[.val (.ref b), .val (.int (Int32.ofNat (o + i))), .val (.ref d), .val (.int (Int32.ofNat (q + i))), .val (.int (Int32.ofNat len)), .val (.int (Int32.ofNat i)), .val (.int (cv A (o + i)))] [.int (lo8 (cv A (o + i))), .int (Int32.ofNat (q + i)), .ref d])) rfl (rest := []) rfl (hb hbytes d31)
      have c8 : Steps p.tables e below (s₁.setTop (entryFrame m #[.ref b, .int (Int32.ofNat o), .ref d, .int (Int32.ofNat q), .int (Int32.ofNat len)] 7)) (T7.setTop (mkF m 32 #[.val (.ref b), .val (.int (Int32.ofNat (o + i))), .val (.ref d), .val (.int (Int32.ofNat (q + i))), .val (.int (Int32.ofNat len)), .val (.int (Int32.ofNat i)), .val (.int (cv A (o + i)))] [])) := c6.trans (st7 _ (Steps.refl _))
      have c9 : Steps p.tables e below (s₁.setTop (entryFrame m #[.ref b, .int (Int32.ofNat o), .ref d, .int (Int32.ofNat q), .int (Int32.ofNat len)] 7)) (T7.setTop (mkF m 3 #[.val (.ref b), .val (.int (Int32.ofNat (o + i) + 1)), .val (.ref d), .val (.int (Int32.ofNat (q + i) + 1)), .val (.int (Int32.ofNat len)), .val (.int (Int32.ofNat i + 1)), .val (.int (cv A (o + i)))] [])) := c8.trans (by
        refine iincV X7.here hexec rfl 1 (hb hbytes d32) (by decide) rfl rfl ?_
        refine iincV X7.here hexec rfl 1 (hb hbytes d35) (by decide) rfl rfl ?_
        refine iincV X7.here hexec rfl 1 (hb hbytes d38) (by decide) rfl rfl ?_
        refine XS.goto X7.here hexec rfl (pc0 := 41) rfl (hb hbytes d41) (by decide) rfl ?_
        exact Steps.refl _)
      have c10 : Steps p.tables e below (s₁.setTop (entryFrame m #[.ref b, .int (Int32.ofNat o), .ref d, .int (Int32.ofNat q), .int (Int32.ofNat len)] 7)) (T7.setTop (mkF m 3 #[.val (.ref b), .val (.int (Int32.ofNat (o + (i + 1)))), .val (.ref d), .val (.int (Int32.ofNat (q + (i + 1)))), .val (.int (Int32.ofNat len)), .val (.int (Int32.ofNat (i + 1))), .val (.int (cv A (o + i)))] [])) := by
        have := c9
        rw [succ32, succ32, succ32] at this
        exact this
      exact ih (i + 1) (by omega) _ (Or.inr ⟨_, rfl, rfl⟩) T7 _ (by rw [copyLocs_step, ← List.append_assoc]; exact X7) (pl.trans p7) (fl.step (by omega) hlt (by simp)) c10
  obtain ⟨T9, B9, z9, X9, p9, f9, g9⟩ := loop len 0 (by omega) .unset (Or.inl rfl) s₁ B (by simpa [copyLocs] using X0) ⟨hB0.1, fun _ _ => rfl, rfl⟩ (Laid.zero _ _ _) c2
  have c11 : Steps p.tables e below (s₁.setTop (entryFrame m #[.ref b, .int (Int32.ofNat o), .ref d, .int (Int32.ofNat q), .int (Int32.ofNat len)] 7)) (T9.setTop (mkF m 46 #[.val (.ref b), .val (.int (Int32.ofNat (o + len))), .val (.ref d), .val (.int (Int32.ofNat (q + len))), .val (.int (Int32.ofNat len)), .val (.int (Int32.ofNat len)), z9] [.int (Int32.ofNat len)])) := g9.trans (by
    refine XS.iload X9.here hexec rfl (hb hbytes d3) rfl ?_
    refine XS.iload X9.here hexec rfl (hb hbytes d5) rfl ?_
    refine XS.icmpYes X9.here hexec rfl (pc0 := 7) rfl (hb hbytes d7) rfl (ii_ge_t (nlt32 (by omega) (Nat.le_refl _))) (by decide) rfl ?_
    refine XS.iload X9.here hexec rfl (hb hbytes d44) rfl ?_
    exact Steps.refl _)
  exact ⟨T9, some (.int (Int32.ofNat len)), _, _, _, X9, by simp, rfl, rfl, (fun h => by cases h), ⟨rfl, B9, p9.from hh0, f9⟩, fun fs hl => c11.trans (X9.ireturnOut hexec hret rfl (Or.inl rfl) (hb hbytes d46) hl)⟩
end Cmp5
namespace Cmp3
def yN : MethodName := ⟨"java/lang/StringUTF16", "compress", "([CII)[B"⟩
abbrev yB : ByteArray := jdk_52_method_16_code
theorem d0 : decode yB 0 = .ok (.iload_n 2, 1) := by decide +kernel
theorem d1 : decode yB 1 = .ok (.newarray .byte, 2) := by decide +kernel
theorem d3 : decode yB 3 = .ok (.astore_n 3, 1) := by decide +kernel
theorem d4 : decode yB 4 = .ok (.aload_n 0, 1) := by decide +kernel
theorem d5 : decode yB 5 = .ok (.iload_n 1, 1) := by decide +kernel
theorem d6 : decode yB 6 = .ok (.aload_n 3, 1) := by decide +kernel
theorem d7 : decode yB 7 = .ok (.iconst 0, 1) := by decide +kernel
theorem d8 : decode yB 8 = .ok (.iload_n 2, 1) := by decide +kernel
theorem d9 : decode yB 9 = .ok (.invokestatic 115, 3) := by decide +kernel
theorem d12 : decode yB 12 = .ok (.istore 4, 2) := by decide +kernel
theorem d14 : decode yB 14 = .ok (.iload 4, 2) := by decide +kernel
theorem d16 : decode yB 16 = .ok (.iload_n 2, 1) := by decide +kernel
theorem d17 : decode yB 17 = .ok (.if_icmp (.eq) 40, 3) := by decide +kernel
theorem d57 : decode yB 57 = .ok (.aload_n 3, 1) := by decide +kernel
theorem d58 : decode yB 58 = .ok (.areturn, 1) := by decide +kernel
def site : List Cond := [.arrayClass .byte, Cmp5.tab] ++ staticW U16 115 Cmp5.yN
def tab : Cond := tabOf yN yB 6 (some (.array .byte)) site
def P (b : Addr) (A : Cell) (o len : Nat) (args : Array Value) (s : State) : Prop := args = #[.ref b, .int (Int32.ofNat o), .int (Int32.ofNat len)] ∧ Ch b A s ∧ o + len ≤ A.slots.size ∧ len ≤ 536870912 ∧ ∀ i, i < len → ¬ 255 < cv A (o + i)
def E (b : Addr) (A : Cell) (o len : Nat) (r : Option Value) (s u : State) : Prop := NewArr .byte "[B" len (fun j => .int (lo8 (cv A (o + j)))) r s u ∧ u.heap.size = s.heap.size + 1
/-- no char of the range above 255: a new byte[] of their low bytes -/
theorem law (l : Launch) (b : Addr) (A : Cell) (o len : Nat) : Law l yN 3 3 1 18 yB 6 (some (.array .byte)) site (P b A o len) (E b A o len) [] 1 len := by
  refine Law.of_walk (plainFor_of_name (by decide +kernel)) (by decide +kernel) (by decide +kernel) (by decide) (fun _ _ h => by rw [h.1]; rfl) (fun _ U U' hal hh h => ⟨h.1, h.2.1.mv hal hh, h.2.2⟩) (fun r U U' V V' h1 hal h2 h => ⟨NewArr.mv r U U' V V' h1 hal h2 h.1, by rw [h1, h2]; exact h.2⟩) ?_
  intro p e s m args below meth c s₁ X0 hexec hbytes hml hret hlk hnm hown hh0 W hP
  obtain ⟨rfl, hA, l1, l2, hp⟩ := hP
  have a31 := hA.1.2.2.2
  have c1 : Steps p.tables e below (s₁.setTop (entryFrame m #[.ref b, .int (Int32.ofNat o), .int (Int32.ofNat len)] 6)) (s₁.setTop (mkF m 0 #[.val (.ref b), .val (.int (Int32.ofNat o)), .val (.int (Int32.ofNat len)), .unset, .unset, .unset] [])) := entry rfl
  have c2 : Steps p.tables e below (s₁.setTop (entryFrame m #[.ref b, .int (Int32.ofNat o), .int (Int32.ofNat len)] 6)) (s₁.setTop (mkF m 1 #[.val (.ref b), .val (.int (Int32.ofNat o)), .val (.int (Int32.ofNat len)), .unset, .unset, .unset] [.int (Int32.ofNat len)])) := c1.trans (by
    refine XS.iloadN X0.here hexec rfl (hb hbytes d0) rfl ?_
    exact Steps.refl _)
  obtain ⟨T3, B3, X3, ba3, bs3, bv3, bh3, bf3, st3⟩ := X0.anew hexec (atype := .byte) (wk W (.arrayClass .byte)) rfl (by show len * 1 ≤ _; omega) (by omega) (g := (mkF m 1 #[.val (.ref b), .val (.int (Int32.ofNat o)), .val (.int (Int32.ofNat len)), .unset, .unset, .unset] [.int (Int32.ofNat len)])) rfl (hb hbytes d1) (rest := []) rfl (Nat.le_refl _) (by show 0 + len ≤ len; omega)
  rw [hh0] at ba3 st3
  have kp3 : XT.Kept s T3 := (XT.Kept.of_eq hh0).push bh3
  have hA3 := hA.keep X3.warmed.alike (kp3 _ _ hA.1.1)
  have hne : b ≠ s.heap.size := hA.1.ne
  have c4 : Steps p.tables e below (s₁.setTop (entryFrame m #[.ref b, .int (Int32.ofNat o), .int (Int32.ofNat len)] 6)) (T3.setTop (mkF m 3 #[.val (.ref b), .val (.int (Int32.ofNat o)), .val (.int (Int32.ofNat len)), .unset, .unset, .unset] [.ref s.heap.size])) := c2.trans (st3 _ (Steps.refl _))
  have c5 : Steps p.tables e below (s₁.setTop (entryFrame m #[.ref b, .int (Int32.ofNat o), .int (Int32.ofNat len)] 6)) (T3.setTop (mkF m 9 #[.val (.ref b), .val (.int (Int32.ofNat o)), .val (.int (Int32.ofNat len)), .val (.ref s.heap.size), .unset, .unset] [.int (Int32.ofNat len), .int 0, .ref s.heap.size, .int (Int32.ofNat o), .ref b])) := c4.trans (by
    refine XS.astoreN X3.here hexec rfl (hb hbytes d3) rfl rfl rfl ?_
    refine XS.aloadN X3.here hexec rfl (hb hbytes d4) rfl rfl ?_
    refine XS.iloadN X3.here hexec rfl (hb hbytes d5) rfl ?_
    refine XS.aloadN X3.here hexec rfl (hb hbytes d6) rfl rfl ?_
    refine iconstV X3.here hexec rfl 0 (hb hbytes d7) (by decide) ?_
    refine XS.iloadN X3.here hexec rfl (hb hbytes d8) rfl ?_
    exact Steps.refl _)
  obtain ⟨v6, T6, X6, E6, g6⟩ := X3.callS hexec (Cmp5.law l b A s.heap.size B3 o 0 len) hown (wks W (staticW U16 115 Cmp5.yN)) (wk W Cmp5.tab) (W := 0) (Nat.le_of_ble_eq_true rfl) (Nat.le_of_ble_eq_true rfl) (Nat.le_refl _) (by show 0 + len + 0 ≤ len; omega) (g := (mkF m 9 #[.val (.ref b), .val (.int (Int32.ofNat o)), .val (.int (Int32.ofNat len)), .val (.ref s.heap.size), .unset, .unset] [.int (Int32.ofNat len), .int (Int32.ofNat 0), .ref s.heap.size, .int (Int32.ofNat o), .ref b])) rfl (by rw [hml]; rfl) c5 (argsL := [.ref b, .int (Int32.ofNat o), .ref s.heap.size, .int (Int32.ofNat 0), .int (Int32.ofNat len)]) (rest := []) rfl rfl (by show 2 * 0 + 0 ≤ _; decide) (hb hbytes d9) (⟨rfl, hA3, ba3, hne, l1, by rw [bs3]; simp, hp⟩)
  obtain ⟨rfl, B6, p6, f6⟩ := E6
  have c7 : Steps p.tables e below (s₁.setTop (entryFrame m #[.ref b, .int (Int32.ofNat o), .int (Int32.ofNat len)] 6)) (T6.setTop (mkF m 12 #[.val (.ref b), .val (.int (Int32.ofNat o)), .val (.int (Int32.ofNat len)), .val (.ref s.heap.size), .unset, .unset] [.int (Int32.ofNat len)])) := g6
  have c8 : Steps p.tables e below (s₁.setTop (entryFrame m #[.ref b, .int (Int32.ofNat o), .int (Int32.ofNat len)] 6)) (T6.setTop (mkF m 58 #[.val (.ref b), .val (.int (Int32.ofNat o)), .val (.int (Int32.ofNat len)), .val (.ref s.heap.size), .val (.int (Int32.ofNat len)), .unset] [.ref s.heap.size])) := c7.trans (by
    refine XS.istore X6.here hexec rfl (hb hbytes d12) rfl rfl ?_
    refine XS.iload X6.here hexec rfl (hb hbytes d14) rfl ?_
    refine XS.iloadN X6.here hexec rfl (hb hbytes d16) rfl ?_
    refine XS.icmpYes X6.here hexec rfl (pc0 := 17) rfl (hb hbytes d17) rfl (ii_eq_t rfl) (by decide) rfl ?_
    refine XS.aloadN X6.here hexec rfl (hb hbytes d57) rfl rfl ?_
    exact Steps.refl _)
  have X8 := X6.wide (L' := []) (cells' := 1) (slots' := len) (fun x hx hlt => by
    simp only [List.nil_append, copyLocs, List.mem_map, List.mem_range] at hx
    obtain ⟨i, -, rfl⟩ := hx
    exact absurd hlt (Nat.lt_irrefl _)) (Nat.le_refl _) (by omega)
  exact ⟨T6, some (.ref s.heap.size), _, _, _, X8, rfl, rfl, rfl, (fun h => by cases h), ⟨⟨rfl, B6, ba3.like (X3.warmed.alike.symm.trans X6.warmed.alike) p6.1 f6.1 f6.2.1 f6.2.2.1, f6.2.1.trans bv3, by rw [X6.warmed.alike.findClass, f6.1]; exact bf3, by rw [f6.2.2.1, bs3]; simp, fun j hj => by rw [f6.2.2.2 j, if_pos (by omega)]; rfl, kp3.put p6 (Nat.le_refl _)⟩, by rw [p6.2.2, bh3, hh0]; simp⟩, fun fs hl => c8.trans (X8.areturnOut hexec rfl hret rfl (hb hbytes d58) hl)⟩
end Cmp3
namespace CodL
def yN : MethodName := ⟨"java/lang/StringUTF16", "coderFromArrayLen", "([BI)B"⟩
abbrev yB : ByteArray := jdk_52_method_15_code
theorem d0 : decode yB 0 = .ok (.iload_n 1, 1) := by decide +kernel
theorem d1 : decode yB 1 = .ok (.aload_n 0, 1) := by decide +kernel
theorem d2 : decode yB 2 = .ok (.arraylength, 1) := by decide +kernel
theorem d3 : decode yB 3 = .ok (.isub, 1) := by decide +kernel
theorem d4 : decode yB 4 = .ok (.bipush 31, 2) := by decide +kernel
theorem d6 : decode yB 6 = .ok (.iushr, 1) := by decide +kernel
theorem d7 : decode yB 7 = .ok (.i2b, 1) := by decide +kernel
theorem d8 : decode yB 8 = .ok (.ireturn, 1) := by decide +kernel
def site : List Cond := []
def tab : Cond := tabOf yN yB 2 (some .byte) site
def P (d : Addr) (B : Cell) (args : Array Value) (s : State) : Prop := args = #[.ref d, .int (Int32.ofNat B.slots.size)] ∧ Arr .byte d B s
def E (r : Option Value) (s u : State) : Prop := XT.PureE (some (.int 0)) r s u
/-- an array as long as the number of chars: LATIN1 -/
theorem law (l : Launch) (d : Addr) (B : Cell) : Law l yN 2 2 0 0 yB 2 (some .byte) site (P d B) E [] 0 0 := by
  refine Law.of_walk (plainFor_of_name (by decide +kernel)) (by decide +kernel) (by decide +kernel) (by decide) (fun _ _ h => by rw [h.1]; rfl) (fun _ U U' hal hh h => ⟨h.1, h.2.mv hal hh⟩) (fun r U U' V V' h1 hal h2 h => XT.PureE.mv r U U' V V' h1 hal h2 h) ?_
  intro p e s m args below meth c s₁ X0 hexec hbytes hml hret hlk hnm hown hh0 W hP
  obtain ⟨rfl, hB⟩ := hP
  have hB0 := hB.mv X0.warmed.alike hh0
  have c1 : Steps p.tables e below (s₁.setTop (entryFrame m #[.ref d, .int (Int32.ofNat B.slots.size)] 2)) (s₁.setTop (mkF m 0 #[.val (.ref d), .val (.int (Int32.ofNat B.slots.size))] [])) := entry rfl
  have c2 : Steps p.tables e below (s₁.setTop (entryFrame m #[.ref d, .int (Int32.ofNat B.slots.size)] 2)) (s₁.setTop (mkF m 2 #[.val (.ref d), .val (.int (Int32.ofNat B.slots.size))] [.ref d, .int (Int32.ofNat B.slots.size)])) := c1.trans (by
    refine XS.iloadN X0.here hexec rfl (hb hbytes d0) rfl ?_
    refine XS.aloadN X0.here hexec rfl (hb hbytes d1) rfl rfl ?_
    exact Steps.refl _)
  have c3 : Steps p.tables e below (s₁.setTop (entryFrame m #[.ref d, .int (Int32.ofNat B.slots.size)] 2)) (s₁.setTop (mkF m 8 #[.val (.ref d), .val (.int (Int32.ofNat B.slots.size))] [.int (lo8 (ushr (Int32.ofNat B.slots.size - Int32.ofNat B.slots.size) 31))])) := c2.trans (by
    refine X0.alen hexec hB0 rfl rfl (hb hbytes d2) ?_
    refine XS.isub X0.here hexec rfl (hb hbytes d3) rfl ?_
    refine bipushV X0.here hexec rfl 31 (hb hbytes d4) (by decide) ?_
    refine iushr X0.here hexec rfl (hb hbytes d6) rfl ?_
    refine i2b X0.here hexec rfl (hb hbytes d7) rfl ?_
    exact Steps.refl _)
  have e0 : lo8 (ushr (Int32.ofNat B.slots.size - Int32.ofNat B.slots.size) 31) = 0 := by rw [Int32.sub_self]; decide
  rw [e0] at c3
  exact ⟨s₁, some (.int 0), _, _, _, X0, rfl, rfl, rfl, (fun h => by cases h), ⟨rfl, hh0⟩, fun fs hl => c3.trans (X0.ireturnOut hexec hret rfl (Or.inr (Or.inr (Or.inl rfl))) (hb hbytes d8) hl)⟩
end CodL
/-- the String at a is Latin-1 over a new byte[] (the heap's one new cell): the low bytes of the len chars of A from o on; every cell but a is kept -/
def Got (a : Addr) (D : Cell) (fV fC : Field) (A : Cell) (o len : Nat) (r : Option Value) (s u : State) : Prop := r = none ∧ ∃ D' V : Cell, Blank "java/lang/String" a D' u ∧ Same D D' [fV.slot, fC.slot] ∧ D'.slots[fV.slot]? = some (.ref s.heap.size) ∧ D'.slots[fC.slot]? = some (.int 0) ∧ Arr .byte s.heap.size V u ∧ V.vm = .none ∧ u.vm.findClass "[B" = some V.cls ∧ V.slots.size = len ∧ (∀ j, j < len → V.slots[j]? = some (.int (lo8 (cv A (o + j))))) ∧ (∀ (y : Addr) (c : Cell), y ≠ a → s.heap[y]? = some c → u.heap[y]? = some c) ∧ u.heap.size = s.heap.size + 1
theorem Got.mv {a : Addr} {D A : Cell} {fV fC : Field} {o len : Nat} : ∀ r (U U' V V' : State), U'.heap = U.heap → V.vm.Alike V'.vm → V'.heap = V.heap → Got a D fV fC A o len r U V → Got a D fV fC A o len r U' V' :=
  fun r U U' V V' h1 hal h2 ⟨e0, D', X, a1, a2, a3, a4, a5, a6, a7, a8, a9, a10, a11⟩ => ⟨e0, D', X, a1.mv hal h2, a2, by rw [h1]; exact a3, a4, by rw [h1]; exact a5.mv hal h2, a6, by rw [hal.findClass]; exact a7, a8, a9, by rw [h1, h2]; exact a10, by rw [h1, h2]; exact a11⟩
namespace New4
def yN : MethodName := ⟨"java/lang/String", "<init>", "([CIILjava/lang/Void;)V"⟩
abbrev yB : ByteArray := jdk_42_method_149_code
theorem d0 : decode yB 0 = .ok (.aload_n 0, 1) := by decide +kernel
theorem d1 : decode yB 1 = .ok (.invokespecial 1, 3) := by decide +kernel
theorem d4 : decode yB 4 = .ok (.iload_n 3, 1) := by decide +kernel
theorem d5 : decode yB 5 = .ok (.ifCond (.ne) 22, 3) := by decide +kernel
theorem d27 : decode yB 27 = .ok (.getstatic 38, 3) := by decide +kernel
theorem d30 : decode yB 30 = .ok (.ifCond (.eq) 28, 3) := by decide +kernel
theorem d33 : decode yB 33 = .ok (.aload_n 1, 1) := by decide +kernel
theorem d34 : decode yB 34 = .ok (.iload_n 2, 1) := by decide +kernel
theorem d35 : decode yB 35 = .ok (.iload_n 3, 1) := by decide +kernel
theorem d36 : decode yB 36 = .ok (.invokestatic 177, 3) := by decide +kernel
theorem d39 : decode yB 39 = .ok (.astore 5, 2) := by decide +kernel
theorem d41 : decode yB 41 = .ok (.aload_n 0, 1) := by decide +kernel
theorem d42 : decode yB 42 = .ok (.aload 5, 2) := by decide +kernel
theorem d44 : decode yB 44 = .ok (.iload_n 3, 1) := by decide +kernel
theorem d45 : decode yB 45 = .ok (.invokestatic 47, 3) := by decide +kernel
theorem d48 : decode yB 48 = .ok (.putfield 15, 3) := by decide +kernel
theorem d51 : decode yB 51 = .ok (.aload_n 0, 1) := by decide +kernel
theorem d52 : decode yB 52 = .ok (.aload 5, 2) := by decide +kernel
theorem d54 : decode yB 54 = .ok (.putfield 9, 3) := by decide +kernel
theorem d57 : decode yB 57 = .ok (.return_, 1) := by decide +kernel
def site : List Cond := [.fieldLink "java/lang/String" 38 "java/lang/String" "COMPACT_STRINGS" "Z", Cmp3.tab, CodL.tab, .laysFinal "java/lang/String" "java/lang/String" "value" "[B", .fieldLink "java/lang/String" 9 "java/lang/String" "value" "[B", .laysFinal "java/lang/String" "java/lang/String" "coder" "B", .fieldLink "java/lang/String" 15 "java/lang/String" "coder" "B"] ++ objW "java/lang/String" 1 ++ staticW "java/lang/String" 177 Cmp3.yN ++ staticW "java/lang/String" 47 CodL.yN
def tab : Cond := tabOf yN yB 6 none site
def P (a : Addr) (D : Cell) (fV fC : Field) (b : Addr) (A : Cell) (z : Int32) (o len : Nat) (args : Array Value) (s : State) : Prop := args = #[.ref a, .ref b, .int (Int32.ofNat o), .int (Int32.ofNat len), .null] ∧ Blank "java/lang/String" a D s ∧ Found "java/lang/String" "value" "[B" fV s ∧ Found "java/lang/String" "coder" "B" fC s ∧ Ch b A s ∧ StaticIs s "java/lang/String" "COMPACT_STRINGS" "Z" (.int z) ∧ ¬ z = 0 ∧ 0 < len ∧ o + len ≤ A.slots.size ∧ len ≤ 536870912 ∧ ∀ i, i < len → ¬ 255 < cv A (o + i)
def E (a : Addr) (D : Cell) (fV fC : Field) (A : Cell) (o len : Nat) (r : Option Value) (s u : State) : Prop := Got a D fV fC A o len r s u
/-- len > 0, no char of the range above 255: a Latin-1 String of their low bytes -/
theorem law (l : Launch) (a : Addr) (D : Cell) (fV fC : Field) (b : Addr) (A : Cell) (z : Int32) (o len : Nat) : Law l yN 5 4 2 35 yB 6 none site (P a D fV fC b A z o len) (E a D fV fC A o len) [⟨a, fC.slot⟩, ⟨a, fV.slot⟩] 1 len := by
  refine Law.of_walk (plainFor_of_name (by decide +kernel)) (by decide +kernel) (by decide +kernel) (by decide) (fun _ _ h => by rw [h.1]; rfl) (fun _ U U' hal hh h => ⟨h.1, h.2.1.mv hal hh, h.2.2.1.al hal, h.2.2.2.1.al hal, h.2.2.2.2.1.mv hal hh, h.2.2.2.2.2.1.there hal hh, h.2.2.2.2.2.2⟩) (fun r U U' V V' h1 hal h2 h => Got.mv r U U' V V' h1 hal h2 h) ?_
  intro p e s m args below meth c s₁ X0 hexec hbytes hml hret hlk hnm hown hh0 W hP
  obtain ⟨rfl, hB, f1, f2, hA, s1, hz, l0, l1, l2, hp⟩ := hP
  have a31 := hA.1.2.2.2
  have c1 : Steps p.tables e below (s₁.setTop (entryFrame m #[.ref a, .ref b, .int (Int32.ofNat o), .int (Int32.ofNat len), .null] 6)) (s₁.setTop (mkF m 0 #[.val (.ref a), .val (.ref b), .val (.int (Int32.ofNat o)), .val (.int (Int32.ofNat len)), .val .null, .unset] [])) := entry rfl
  have c2 : Steps p.tables e below (s₁.setTop (entryFrame m #[.ref a, .ref b, .int (Int32.ofNat o), .int (Int32.ofNat len), .null] 6)) (s₁.setTop (mkF m 1 #[.val (.ref a), .val (.ref b), .val (.int (Int32.ofNat o)), .val (.int (Int32.ofNat len)), .val .null, .unset] [.ref a])) := c1.trans (by
    refine XS.aloadN X0.here hexec rfl (hb hbytes d0) rfl rfl ?_
    exact Steps.refl _)
  obtain ⟨T3, X3, q3, st3⟩ := X0.oinit hexec hown (wks W (objW "java/lang/String" 1)) (g := (mkF m 1 #[.val (.ref a), .val (.ref b), .val (.int (Int32.ofNat o)), .val (.int (Int32.ofNat len)), .val .null, .unset] [.ref a])) rfl (by rw [hml]; rfl) (rest := []) rfl (hb hbytes d1) (W := 0) (by show 2 * 0 + 0 ≤ _; decide) (Nat.le_of_ble_eq_true rfl) (Nat.le_of_ble_eq_true rfl)
  have hh3 := q3.trans hh0
  have c4 : Steps p.tables e below (s₁.setTop (entryFrame m #[.ref a, .ref b, .int (Int32.ofNat o), .int (Int32.ofNat len), .null] 6)) (T3.setTop (mkF m 27 #[.val (.ref a), .val (.ref b), .val (.int (Int32.ofNat o)), .val (.int (Int32.ofNat len)), .val .null, .unset] [])) := (c2.trans (st3 _ (Steps.refl _))).trans (by
    refine XS.iloadN X3.here hexec rfl (hb hbytes d4) rfl ?_
    refine XS.ifYes X3.here hexec rfl (pc0 := 5) rfl (hb hbytes d5) rfl (i0_ne_t (nz32 (by omega) l0)) (by decide) rfl ?_
    exact Steps.refl _)
  obtain ⟨T5, X5, q5, st5⟩ := X3.sget hexec hown (wk W (.fieldLink "java/lang/String" 38 "java/lang/String" "COMPACT_STRINGS" "Z")) s1 (fun _ _ h => by rw [hh3]; exact h) (g := (mkF m 27 #[.val (.ref a), .val (.ref b), .val (.int (Int32.ofNat o)), .val (.int (Int32.ofNat len)), .val .null, .unset] [])) rfl (hb hbytes d27)
  have hh5 := q5.trans hh3
  have c6 : Steps p.tables e below (s₁.setTop (entryFrame m #[.ref a, .ref b, .int (Int32.ofNat o), .int (Int32.ofNat len), .null] 6)) (T5.setTop (mkF m 30 #[.val (.ref a), .val (.ref b), .val (.int (Int32.ofNat o)), .val (.int (Int32.ofNat len)), .val .null, .unset] [.int z])) := c4.trans (st5 _ (Steps.refl _))
  have c7 : Steps p.tables e below (s₁.setTop (entryFrame m #[.ref a, .ref b, .int (Int32.ofNat o), .int (Int32.ofNat len), .null] 6)) (T5.setTop (mkF m 36 #[.val (.ref a), .val (.ref b), .val (.int (Int32.ofNat o)), .val (.int (Int32.ofNat len)), .val .null, .unset] [.int (Int32.ofNat len), .int (Int32.ofNat o), .ref b])) := c6.trans (by
    refine XS.ifNo X5.here hexec rfl (hb hbytes d30) rfl (i0_eq_f hz) ?_
    refine XS.aloadN X5.here hexec rfl (hb hbytes d33) rfl rfl ?_
    refine XS.iloadN X5.here hexec rfl (hb hbytes d34) rfl ?_
    refine XS.iloadN X5.here hexec rfl (hb hbytes d35) rfl ?_
    exact Steps.refl _)
  obtain ⟨v8, T8, X8, E8, g8⟩ := X5.callS hexec (Cmp3.law l b A o len) hown (wks W (staticW "java/lang/String" 177 Cmp3.yN)) (wk W Cmp3.tab) (W := 0) (Nat.le_of_ble_eq_true rfl) (Nat.le_of_ble_eq_true rfl) (Nat.le_refl _) (by show 0 + len ≤ len; omega) (g := (mkF m 36 #[.val (.ref a), .val (.ref b), .val (.int (Int32.ofNat o)), .val (.int (Int32.ofNat len)), .val .null, .unset] [.int (Int32.ofNat len), .int (Int32.ofNat o), .ref b])) rfl (by rw [hml]; rfl) c7 (argsL := [.ref b, .int (Int32.ofNat o), .int (Int32.ofNat len)]) (rest := []) rfl rfl (by show 2 * 0 + 0 ≤ _; decide) (hb hbytes d36) (⟨rfl, hA.mv X5.warmed.alike hh5, l1, l2, hp⟩)
  obtain ⟨e8, z8⟩ := E8
  obtain ⟨rfl, N, n1, n2, n3, n4, n5, n6⟩ := NewArr.mv _ T5 s _ _ hh5.symm (Vm.Alike.refl _) rfl e8
  rw [hh5] at z8
  have hB1 := hB.keep X8.warmed.alike (n6 _ _ hB.1)
  have hne : s.heap.size ≠ a := (Nat.ne_of_lt (Array.getElem?_eq_some_iff.mp hB.1).1).symm
  have c9 : Steps p.tables e below (s₁.setTop (entryFrame m #[.ref a, .ref b, .int (Int32.ofNat o), .int (Int32.ofNat len), .null] 6)) (T8.setTop (mkF m 39 #[.val (.ref a), .val (.ref b), .val (.int (Int32.ofNat o)), .val (.int (Int32.ofNat len)), .val .null, .unset] [.ref s.heap.size])) := g8
  have c10 : Steps p.tables e below (s₁.setTop (entryFrame m #[.ref a, .ref b, .int (Int32.ofNat o), .int (Int32.ofNat len), .null] 6)) (T8.setTop (mkF m 45 #[.val (.ref a), .val (.ref b), .val (.int (Int32.ofNat o)), .val (.int (Int32.ofNat len)), .val .null, .val (.ref s.heap.size)] [.int (Int32.ofNat N.slots.size), .ref s.heap.size, .ref a])) := by
    have hc : Steps p.tables e below (s₁.setTop (entryFrame m #[.ref a, .ref b, .int (Int32.ofNat o), .int (Int32.ofNat len), .null] 6)) (T8.setTop (mkF m 45 #[.val (.ref a), .val (.ref b), .val (.int (Int32.ofNat o)), .val (.int (Int32.ofNat len)), .val .null, .val (.ref s.heap.size)] [.int (Int32.ofNat len), .ref s.heap.size, .ref a])) := c9.trans (by
      refine XS.astore X8.here hexec rfl (hb hbytes d39) rfl rfl rfl ?_
      refine XS.aloadN X8.here hexec rfl (hb hbytes d41) rfl rfl ?_
      refine XS.aload X8.here hexec rfl (hb hbytes d42) rfl rfl ?_
      refine XS.iloadN X8.here hexec rfl (hb hbytes d44) rfl ?_
      exact Steps.refl _)
    rw [n4]; exact hc
  obtain ⟨v11, T11, X11, E11, g11⟩ := X8.callS hexec (CodL.law l s.heap.size N) hown (wks W (staticW "java/lang/String" 47 CodL.yN)) (wk W CodL.tab) (W := 1) (Nat.le_of_ble_eq_true rfl) (Nat.le_of_ble_eq_true rfl) (Nat.le_refl _) (by show 0 + len + 0 ≤ len; omega) (g := (mkF m 45 #[.val (.ref a), .val (.ref b), .val (.int (Int32.ofNat o)), .val (.int (Int32.ofNat len)), .val .null, .val (.ref s.heap.size)] [.int (Int32.ofNat N.slots.size), .ref s.heap.size, .ref a])) rfl (by rw [hml]; rfl) c10 (argsL := [.ref s.heap.size, .int (Int32.ofNat N.slots.size)]) (rest := [.ref a]) rfl rfl (by show 2 * 0 + (1 + 0) ≤ _; decide) (hb hbytes d45) (⟨rfl, n1⟩)
  obtain ⟨rfl, q11⟩ := E11
  have hB11 := hB1.mv (X8.warmed.alike.symm.trans X11.warmed.alike) q11
  have c12 : Steps p.tables e below (s₁.setTop (entryFrame m #[.ref a, .ref b, .int (Int32.ofNat o), .int (Int32.ofNat len), .null] 6)) (T11.setTop (mkF m 48 #[.val (.ref a), .val (.ref b), .val (.int (Int32.ofNat o)), .val (.int (Int32.ofNat len)), .val .null, .val (.ref s.heap.size)] [.int 0, .ref a])) := g11
  obtain ⟨T13, X13, p13, bl13, sl13, st13⟩ := X11.finit hexec hown (wk W (.fieldLink "java/lang/String" 15 "java/lang/String" "coder" "B")) (Or.inr ⟨_, (wk W (.laysFinal "java/lang/String" "java/lang/String" "coder" "B"))⟩) (Or.inl ⟨rfl, hnm⟩) f2 (Or.inl rfl) hB11 (t := .byte) (by decide +kernel) rfl (g := (mkF m 48 #[.val (.ref a), .val (.ref b), .val (.int (Int32.ofNat o)), .val (.int (Int32.ofNat len)), .val .null, .val (.ref s.heap.size)] [.int 0, .ref a])) rfl (rest := []) rfl (hb hbytes d48)
  have c14 : Steps p.tables e below (s₁.setTop (entryFrame m #[.ref a, .ref b, .int (Int32.ofNat o), .int (Int32.ofNat len), .null] 6)) (T13.setTop (mkF m 54 #[.val (.ref a), .val (.ref b), .val (.int (Int32.ofNat o)), .val (.int (Int32.ofNat len)), .val .null, .val (.ref s.heap.size)] [.ref s.heap.size, .ref a])) := (c12.trans (st13 _ (Steps.refl _))).trans (by
    refine XS.aloadN X13.here hexec rfl (hb hbytes d51) rfl rfl ?_
    refine XS.aload X13.here hexec rfl (hb hbytes d52) rfl rfl ?_
    exact Steps.refl _)
  obtain ⟨T15, X15, p15, bl15, sl15, st15⟩ := X13.finit hexec hown (wk W (.fieldLink "java/lang/String" 9 "java/lang/String" "value" "[B")) (Or.inr ⟨_, (wk W (.laysFinal "java/lang/String" "java/lang/String" "value" "[B"))⟩) (Or.inl ⟨rfl, hnm⟩) f1 (Or.inl rfl) bl13 (t := (.array .byte)) (by decide +kernel) rfl (g := (mkF m 54 #[.val (.ref a), .val (.ref b), .val (.int (Int32.ofNat o)), .val (.int (Int32.ofNat len)), .val .null, .val (.ref s.heap.size)] [.ref s.heap.size, .ref a])) rfl (rest := []) rfl (hb hbytes d54)
  have c16 : Steps p.tables e below (s₁.setTop (entryFrame m #[.ref a, .ref b, .int (Int32.ofNat o), .int (Int32.ofNat len), .null] 6)) (T15.setTop (mkF m 57 #[.val (.ref a), .val (.ref b), .val (.int (Int32.ofNat o)), .val (.int (Int32.ofNat len)), .val .null, .val (.ref s.heap.size)] [])) := c14.trans (st15 _ (Steps.refl _))
  have ap := apart (Or.inr ⟨_, (wk W (.laysFinal "java/lang/String" "java/lang/String" "value" "[B"))⟩) (Or.inr ⟨_, (wk W (.laysFinal "java/lang/String" "java/lang/String" "coder" "B"))⟩) f1 f2 (t₁ := .array .byte) (t₂ := .byte) (by decide +kernel) (by decide +kernel) (by decide)
  have al := X8.warmed.alike.symm.trans X15.warmed.alike
  have n7 : T11.heap[s.heap.size]? = some N := by rw [q11]; exact n1.1
  exact ⟨T15, none, _, _, _, X15, by simp, rfl, by omega, (fun _ => rfl), ⟨rfl, _, N, bl15, ((Same.refl D _).set _ (by simp)).set _ (by simp), sl15, (Cell.slots_setSlot_ne _ ap).trans sl13, n1.keep al (p15.other hne (p13.other hne n7)), n2, by rw [al.findClass]; exact n3, n4, n5, fun y c h1 h2 => p15.other h1 (p13.other h1 (by rw [q11]; exact n6 y c h2)), by rw [p15.2.2, p13.2.2, q11]; exact z8⟩, fun fs hl => c16.trans (X15.returnOut hexec hret (hb hbytes d57) hl)⟩
end New4
namespace New1
def yN : MethodName := ⟨"java/lang/String", "<init>", "([C)V"⟩
abbrev yB : ByteArray := jdk_42_method_3_code
theorem d0 : decode yB 0 = .ok (.aload_n 0, 1) := by decide +kernel
theorem d1 : decode yB 1 = .ok (.aload_n 1, 1) := by decide +kernel
theorem d2 : decode yB 2 = .ok (.iconst 0, 1) := by decide +kernel
theorem d3 : decode yB 3 = .ok (.aload_n 1, 1) := by decide +kernel
theorem d4 : decode yB 4 = .ok (.arraylength, 1) := by decide +kernel
theorem d5 : decode yB 5 = .ok (.aconst_null, 1) := by decide +kernel
theorem d6 : decode yB 6 = .ok (.invokespecial 27, 3) := by decide +kernel
theorem d9 : decode yB 9 = .ok (.return_, 1) := by decide +kernel
def site : List Cond := [New4.tab] ++ initW "java/lang/String" 27 New4.yN
def tab : Cond := tabOf yN yB 2 none site
def P (a : Addr) (D : Cell) (fV fC : Field) (b : Addr) (A : Cell) (z : Int32) (args : Array Value) (s : State) : Prop := args = #[.ref a, .ref b] ∧ Blank "java/lang/String" a D s ∧ Found "java/lang/String" "value" "[B" fV s ∧ Found "java/lang/String" "coder" "B" fC s ∧ Ch b A s ∧ StaticIs s "java/lang/String" "COMPACT_STRINGS" "Z" (.int z) ∧ ¬ z = 0 ∧ 0 < A.slots.size ∧ A.slots.size ≤ 536870912 ∧ ∀ i, i < A.slots.size → ¬ 255 < cv A i
def E (a : Addr) (D : Cell) (fV fC : Field) (A : Cell) (r : Option Value) (s u : State) : Prop := Got a D fV fC A 0 A.slots.size r s u
/-- new String(chars), not empty, no char above 255: a Latin-1 String of their low bytes -/
theorem law (l : Launch) (a : Addr) (D : Cell) (fV fC : Field) (b : Addr) (A : Cell) (z : Int32) : Law l yN 2 1 3 52 yB 2 none site (P a D fV fC b A z) (E a D fV fC A) [⟨a, fC.slot⟩, ⟨a, fV.slot⟩] 1 A.slots.size := by
  refine Law.of_walk (plainFor_of_name (by decide +kernel)) (by decide +kernel) (by decide +kernel) (by decide) (fun _ _ h => by rw [h.1]; rfl) (fun _ U U' hal hh h => ⟨h.1, h.2.1.mv hal hh, h.2.2.1.al hal, h.2.2.2.1.al hal, h.2.2.2.2.1.mv hal hh, h.2.2.2.2.2.1.there hal hh, h.2.2.2.2.2.2⟩) (fun r U U' V V' h1 hal h2 h => Got.mv r U U' V V' h1 hal h2 h) ?_
  intro p e s m args below meth c s₁ X0 hexec hbytes hml hret hlk hnm hown hh0 W hP
  obtain ⟨rfl, hB, f1, f2, hA, s1, hz, l0, l2, hp⟩ := hP
  have c1 : Steps p.tables e below (s₁.setTop (entryFrame m #[.ref a, .ref b] 2)) (s₁.setTop (mkF m 0 #[.val (.ref a), .val (.ref b)] [])) := entry rfl
  have c2 : Steps p.tables e below (s₁.setTop (entryFrame m #[.ref a, .ref b] 2)) (s₁.setTop (mkF m 6 #[.val (.ref a), .val (.ref b)] [.null, .int (Int32.ofNat A.slots.size), .int 0, .ref b, .ref a])) := c1.trans (by
    refine XS.aloadN X0.here hexec rfl (hb hbytes d0) rfl rfl ?_
    refine XS.aloadN X0.here hexec rfl (hb hbytes d1) rfl rfl ?_
    refine iconstV X0.here hexec rfl 0 (hb hbytes d2) (by decide) ?_
    refine XS.aloadN X0.here hexec rfl (hb hbytes d3) rfl rfl ?_
    refine X0.alen hexec (hA.1.mv X0.warmed.alike hh0) rfl rfl (hb hbytes d4) ?_
    refine XS.aconstNull X0.here hexec rfl (hb hbytes d5) ?_
    exact Steps.refl _)
  obtain ⟨v3, T3, X3, E3, g3⟩ := X0.callN hexec (New4.law l a D fV fC b A z 0 A.slots.size) rfl hown (wks W (initW "java/lang/String" 27 New4.yN)) (W New4.tab (by simp only [site, List.mem_cons, List.mem_append, true_or, or_true])) (W := 0) (Nat.le_of_ble_eq_true rfl) (Nat.le_of_ble_eq_true rfl) (Nat.le_refl _) (by show 0 + A.slots.size ≤ A.slots.size; omega) (g := (mkF m 6 #[.val (.ref a), .val (.ref b)] [.null, .int (Int32.ofNat A.slots.size), .int (Int32.ofNat 0), .ref b, .ref a])) rfl (by rw [hml]; rfl) c2 (argsL := [.ref b, .int (Int32.ofNat 0), .int (Int32.ofNat A.slots.size), .null]) (rest := []) rfl rfl (by show 2 * 0 + 0 ≤ _; decide) (hb hbytes d6) (⟨rfl, hB.mv X0.warmed.alike hh0, f1.al X0.warmed.alike, f2.al X0.warmed.alike, hA.mv X0.warmed.alike hh0, s1.there X0.warmed.alike hh0, hz, l0, by omega, l2, fun i hi => by rw [Nat.zero_add]; exact hp i hi⟩)
  have e0 := Got.mv _ s₁ s _ _ hh0.symm (Vm.Alike.refl _) rfl E3
  obtain rfl := e0.1
  have c4 : Steps p.tables e below (s₁.setTop (entryFrame m #[.ref a, .ref b] 2)) (T3.setTop (mkF m 9 #[.val (.ref a), .val (.ref b)] [])) := g3
  exact ⟨T3, none, _, _, _, X3, by simp, rfl, by omega, (fun _ => rfl), e0, fun fs hl => c4.trans (X3.returnOut hexec hret (hb hbytes d9) hl)⟩
theorem pays {l : Launch} {R : Room} {p : Program} {e : Env} {below : List Frame} {s : State} {sargs : Array Value} {len W : Nat} (a : Addr) (D : Cell) (fV fC : Field) (b : Addr) (A : Cell) (z : Int32) (htab : tab.before sargs s = true) (hfr : 4 ≤ R.frames) (hlo : W + 65 ≤ R.locals) :
    Back l R p e below s sargs yN len W (fun A₁ a₁ => A₁.cells + 1 ≤ R.cells ∧ A₁.slots + A.slots.size ≤ R.slots ∧ P a D fV fC b A z a₁ A₁.U) (fun A₁ _ v₁ B₁ => E a D fV fC A v₁ A₁.U B₁.U ∧ B₁.locs = A₁.locs ++ [⟨a, fC.slot⟩, ⟨a, fV.slot⟩] ∧ B₁.cells = A₁.cells + 1 ∧ B₁.slots = A₁.slots + A.slots.size) :=
  (law l a D fV fC b A z).pays htab hfr (by omega)
end New1
end StrChars
namespace StrChars.Road
open Jvm Sem ClassFile Op Lib Jvm.Stand Jvm.Free Jvm.Free.XT
open Jvm.Lib.Cold (StaticIs)
abbrev ST : String := "java/lang/String"
/-- every table word that New1's law asks, flat -/
abbrev words : List Jvm.Cond := [.code New1.yN New1.yB 2 none, .initialized ST, .methodLink ST 27 New4.yN, .instanceMethod New4.yN,
  .code New4.yN New4.yB 6 none, .fieldLink ST 38 ST "COMPACT_STRINGS" "Z", .laysFinal ST ST "value" "[B", .fieldLink ST 9 ST "value" "[B", .laysFinal ST ST "coder" "B", .fieldLink ST 15 ST "coder" "B",
  .methodLink ST 1 Lib.objectInit, .instanceMethod Lib.objectInit, .code Lib.objectInit ⟨#[0xb1]⟩ 1 none, .methodLink ST 177 Cmp3.yN, .static Cmp3.yN, .methodLink ST 47 CodL.yN, .static CodL.yN,
  .code Cmp3.yN Cmp3.yB 6 (some (.array .byte)), .initialized U16, .arrayClass .byte, .methodLink U16 115 Cmp5.yN, .static Cmp5.yN, .code Cmp5.yN Cmp5.yB 7 (some .int), .code CodL.yN CodL.yB 2 (some .byte)]
theorem tab_of {a : Array Value} {s : State} (h : ∀ w ∈ words, w.before a s = true) : New1.tab.before a s = true := by
  have h5 : Cmp5.tab.before a s = true := unparts (wk h (.code Cmp5.yN Cmp5.yB 7 (some .int))) (wks h (.initialized Cmp5.yN.cls :: Cmp5.site))
  have hc : CodL.tab.before a s = true := unparts (wk h (.code CodL.yN CodL.yB 2 (some .byte))) (wks h (.initialized CodL.yN.cls :: CodL.site))
  have q5 : ∀ w ∈ Cmp5.tab :: words, w.before a s = true := fun w hw => (List.mem_cons.mp hw).elim (fun e => e ▸ h5) (h w)
  have h3 : Cmp3.tab.before a s = true := unparts (wk q5 (.code Cmp3.yN Cmp3.yB 6 (some (.array .byte)))) (wks q5 (.initialized Cmp3.yN.cls :: Cmp3.site))
  have q3 : ∀ w ∈ Cmp3.tab :: CodL.tab :: words, w.before a s = true := fun w hw => (List.mem_cons.mp hw).elim (fun e => e ▸ h3) fun hw => (List.mem_cons.mp hw).elim (fun e => e ▸ hc) (h w)
  have h4 : New4.tab.before a s = true := unparts (wk q3 (.code New4.yN New4.yB 6 none)) (wks q3 (.initialized New4.yN.cls :: New4.site))
  have q4 : ∀ w ∈ New4.tab :: words, w.before a s = true := fun w hw => (List.mem_cons.mp hw).elim (fun e => e ▸ h4) (h w)
  exact unparts (wk q4 (.code New1.yN New1.yB 2 none)) (wks q4 (.initialized New1.yN.cls :: New1.site))
/-- the words ride from the start Z to the walk's own state -/
theorem moved {Z s : State} {a0 args : Array Value} (hZ : Z.Warmed39 s.vm) (hw : ∀ d ∈ words, d.before a0 Z = true) : ∀ d ∈ words, d.before args s = true := fun d hd => by
  have q := hw d hd
  have t : ∀ d ∈ words, d = .arrayClass .byte ∨ (d.onTables && d.keepsFace) = true := by decide +kernel
  rcases t d hd with rfl | t
  · exact RoadKit.mvA hZ q
  · exact RoadKit.mv hZ q t
/-- WHAT COMES BACK, over the tables of the start Z: h the heap at the call, h' behind it -/
def Q (Z : State) (x : Addr) (A : Cell) (h : Heap) (v : Option Value) (h' : Heap) (L : List Loc) : Prop := v = none ∧ (∀ y ∈ L, y.base = x) ∧ RoadKit.Keep h h' [x] ∧ h'.size = h.size + 1 ∧ RoadKit.Exa Z h' x ST ∧ RoadKit.Fld Z h' x ST "value" "[B" (.ref h.size) ∧ RoadKit.Fld Z h' x ST "coder" "B" (.int 0) ∧
  (∃ V : Cell, RoadKit.Arr Z h' h.size V .byte ∧ V.vm = .none ∧ Z.vm.findClass "[B" = some V.cls ∧ V.slots.size = A.slots.size ∧ ∀ j, j < A.slots.size → V.slots[j]? = some (.int (lo8 (cv A j)))) ∧
  ∀ (O n d : String) (w : Value), RoadKit.Fld Z h x O n d w → RoadKit.slotOf Z O n d ≠ RoadKit.slotOf Z ST "value" "[B" → RoadKit.slotOf Z O n d ≠ RoadKit.slotOf Z ST "coder" "B" → RoadKit.Fld Z h' x O n d w
/-- **new String(chars) AT A CALL, IN THE ROAD'S FORM**: for specialBack behind newO: x the fresh String, b the char[] with the cell A -/
theorem back {p : Program} {l : Launch} {e : Env} {R : Room} {s : State} {args : Array Value} {below : List Frame} {len W : Nat} {Z : State} {a0 : Array Value} {h : Heap} (hZ : Z.Warmed39 s.vm) (hw : ∀ d ∈ words, d.before a0 Z = true) {kI : Nat} (wi : (Jvm.Cond.instantiable ST kI).before a0 Z = true)
    {x b : Addr} {A : Cell} {z : Int32} {v0 c0 : Value} (E : RoadKit.Exa Z h x ST) (V : RoadKit.Fld Z h x ST "value" "[B" v0) (C : RoadKit.Fld Z h x ST "coder" "B" c0) (K : RoadKit.Arr Z h b A .char) (hty : Typed .char A) (S : RoadKit.Sta Z h ST "COMPACT_STRINGS" "Z" (.int z)) (hz : ¬ z = 0)
    (l0 : 0 < A.slots.size) (l2 : A.slots.size ≤ 536870912) (hp : ∀ i, i < A.slots.size → ¬ 255 < cv A i) (hfr : 4 ≤ R.frames) (hlo : W + 65 ≤ R.locals) :
    Back l R p e below s args New1.yN len W (fun P a => a = #[.ref x, .ref b] ∧ P.U.heap = h ∧ P.cells + 1 ≤ R.cells ∧ P.slots + A.slots.size ≤ R.slots)
      (fun P _ v B => ∃ L, Q Z x A h v B.U.heap L ∧ B.locs = P.locs ++ L ∧ B.cells = P.cells + 1 ∧ B.slots = P.slots + A.slots.size) := by
  intro m meth c P g ig mk a X hg hsize hdg hW hn hp'
  obtain ⟨rfl, rfl, r1, r2⟩ := hp'
  have al : Z.vm.Alike P.U.vm := hZ.alike.trans X.warmed.alike
  obtain ⟨D, cfV, kV, iV, fV, hD, gV, stV, knV, obV, asV, slV⟩ := id V
  obtain ⟨D', cfC, kC, iC, fC, hD', gC, stC, -, -, asC, slC⟩ := id C
  cases hD.symm.trans hD'
  obtain ⟨D2, kD, e1, e2, e3, e4, e5⟩ := id E
  cases hD.symm.trans e1
  obtain ⟨c2, k2, i1, i2, i3, -⟩ := Cond.instantiable_spec wi
  cases e2.symm.trans i1
  cases e3.symm.trans i2
  obtain ⟨kU, u1, u2⟩ := al.2.2 _ _ e3
  have hB : Blank ST x D P.U := ⟨hD, ⟨knV, fun q hq => by rw [hq] at obV; cases obV⟩, by rw [al.findClass]; exact e2, kU, u1, by rw [u2]; exact i3, by rw [u2]; exact e5 i3⟩
  have F1 : Found ST "value" "[B" fV P.U := ⟨SBG.found_only al ⟨cfV, kV, iV, gV⟩, stV⟩
  have F2 : Found ST "coder" "B" fC P.U := ⟨SBG.found_only al ⟨cfC, kC, iC, gC⟩, stC⟩
  have hA : Ch b A P.U := ⟨⟨K.1, State.isArrayOf_alike al K.2.1, K.2.2, by omega⟩, hty⟩
  have hS : StaticIs P.U ST "COMPACT_STRINGS" "Z" (.int z) := by
    obtain ⟨cfS, iS, kS, fS, st, cS, t1, t2, t3, t4, t5, t6, t7⟩ := S
    exact StaticIs.there (s := { Z with heap := P.U.heap }) ⟨cfS, iS, kS, fS, st, cS, t1, t2, t3, t4, t5, (fun q => by rw [q] at t6; cases t6), t7⟩ al rfl
  obtain ⟨v, B, X', ⟨⟨hv, E', V', q1, q2, q3, q4, q5, q6, q7, q8, q9, q10, q11⟩, hl, hc, hs⟩, st⟩ := New1.pays x D fV fC b A z (tab_of (moved hZ hw)) hfr hlo m meth c P g ig mk _ X hg hsize hdg hW hn ⟨r1, r2, rfl, hB, F1, F2, hA, hS, hz, l0, l2, hp⟩
  have al' : Z.vm.Alike B.U.vm := hZ.alike.trans X'.warmed.alike
  have hsz : E'.slots.size = D.slots.size := by
    obtain ⟨-, -, -, kB, w1, w2, w3⟩ := q1
    obtain ⟨kB', y1, y2⟩ := al'.2.2 _ _ e3
    rw [q2.2.1] at w1
    cases w1.symm.trans y1
    rw [w3, e5 i3, y2]
  refine ⟨v, B, X', ⟨_, ⟨hv, ?_, ⟨by omega, fun y cy hy hn' => q10 y cy (by simpa using hn') hy, fun y cy hy => ?_⟩, q11, ⟨E', _, q1.1, by rw [q2.2.1]; exact e2, by rw [q2.2.1]; exact e3, by rw [q2.1]; exact obV, fun _ => by rw [hsz]; exact e5 i3⟩,
    ⟨E', cfV, kV, iV, fV, q1.1, gV, stV, by rw [q2.1]; exact knV, by rw [q2.1]; exact obV, by rw [q2.2.1]; exact asV, q3⟩, ⟨E', cfC, kC, iC, fC, q1.1, gC, stC, by rw [q2.1]; exact knV, by rw [q2.1]; exact obV, by rw [q2.2.1]; exact asC, q4⟩,
    ⟨V', ⟨q5.1, State.isArrayOf_alike al'.symm q5.2.1, q5.2.2.1⟩, q6, by rw [← al'.findClass]; exact q7, q8, fun j hj => by have := q9 j hj; rwa [Nat.zero_add] at this⟩, fun O n d w F n1 n2 => ?_⟩, hl, hc, hs⟩, st⟩
  · intro y hy
    simp only [List.mem_cons, List.not_mem_nil, or_false] at hy
    rcases hy with rfl | rfl <;> rfl
  · by_cases q : y = x
    · subst q
      cases hD.symm.trans hy
      exact ⟨E', q1.1, q2.2.1, q2.1, hsz⟩
    · exact ⟨cy, q10 y cy q hy, rfl, rfl, rfl⟩
  · obtain ⟨D3, cf, k, i, f, g1, g2, g3, g4, g5, g6, g7⟩ := F
    cases hD.symm.trans g1
    simp only [RoadKit.slotOf, g2, gV, gC, Option.map_some, Option.getD_some] at n1 n2
    exact ⟨E', cf, k, i, f, q1.1, g2, g3, by rw [q2.1]; exact g4, by rw [q2.1]; exact g5, by rw [q2.2.1]; exact g6, by rw [q2.2.2 f.slot (by simp [n1, n2])]; exact g7⟩
end StrChars.Road
namespace StrChars.Road
open Jvm Sem ClassFile Op Lib Jvm.Stand Jvm.Free Jvm.Free.XT
/-- WHAT COMES BACK, the byte[] as a list of values -/
def QA (Z : State) (x : Addr) (zn : Int32) (cs : List Int32) (h : Heap) (v : Option Value) (h' : Heap) (L : List Loc) : Prop := v = none ∧ (∀ y ∈ L, y.base = x) ∧ RoadKit.Keep h h' [x] ∧ h'.size = h.size + 1 ∧ RoadKit.Exa Z h' x ST ∧ RoadKit.Fld Z h' x ST "value" "[B" (.ref h.size) ∧ RoadKit.Fld Z h' x ST "coder" "B" (.int 0) ∧
  (∃ kb, Z.vm.findClass "[B" = some kb ∧ RoadKit.Arv Z h' h.size kb .byte zn (cs.map fun c => .int (lo8 c)) (.int 0)) ∧
  ∀ (O n d : String) (w : Value), RoadKit.Fld Z h x O n d w → RoadKit.slotOf Z O n d ≠ RoadKit.slotOf Z ST "value" "[B" → RoadKit.slotOf Z O n d ≠ RoadKit.slotOf Z ST "coder" "B" → RoadKit.Fld Z h' x O n d w
/-- **new String(chars) AT A CALL, THE ARRAYS AS LISTS**: the char[] at b holds cs, not empty, no char above 255 -/
theorem backArv {p : Program} {l : Launch} {e : Env} {R : Room} {s : State} {args : Array Value} {below : List Frame} {len W : Nat} {Z : State} {a0 : Array Value} {h : Heap} (hZ : Z.Warmed39 s.vm) (hw : ∀ d ∈ words, d.before a0 Z = true) {kI : Nat} (wi : (Jvm.Cond.instantiable ST kI).before a0 Z = true)
    {x b : Addr} {k : ClassId} {zn z : Int32} {cs : List Int32} {dv v0 c0 : Value} (E : RoadKit.Exa Z h x ST) (V : RoadKit.Fld Z h x ST "value" "[B" v0) (C : RoadKit.Fld Z h x ST "coder" "B" c0) (K : RoadKit.Arv Z h b k .char zn (cs.map Value.int) dv) (S : RoadKit.Sta Z h ST "COMPACT_STRINGS" "Z" (.int z)) (hz : ¬ z = 0)
    (hlen : zn.toNatClampNeg = cs.length) (h0 : 0 < cs.length) (hbig : cs.length ≤ 536870912) (hall : ∀ c ∈ cs, ¬ 255 < c) (hfr : 4 ≤ R.frames) (hlo : W + 65 ≤ R.locals) :
    Back l R p e below s args New1.yN len W (fun P a => a = #[.ref x, .ref b] ∧ P.U.heap = h ∧ P.cells + 1 ≤ R.cells ∧ P.slots + cs.length ≤ R.slots)
      (fun P _ v B => ∃ L, QA Z x zn cs h v B.U.heap L ∧ B.locs = P.locs ++ L ∧ B.cells = P.cells + 1 ∧ B.slots = P.slots + cs.length) := by
  obtain ⟨A, K1, K2, K3, K4, K5, K6⟩ := K
  have e : A.slots.size = cs.length := K3.trans hlen
  have hat : ∀ (i : Nat) (hi : i < cs.length), A.slots[i]? = some (.int cs[i]) := fun i hi => by rw [K5 i (by omega)]; simp [List.getD_eq_getElem?_getD, hi]
  have hcv : ∀ (i : Nat) (hi : i < cs.length), cv A i = cs[i] := fun i hi => by unfold cv; rw [hat i hi]
  have hty : Typed .char A := fun i v hv => by
    have hi : i < A.slots.size := (Array.getElem?_eq_some_iff.mp hv).1
    have q := K5 i hi
    rw [hv] at q
    rw [Option.some.inj q]
    exact K6 i hi
  refine Back.mono (back hZ hw wi E V C K1 hty S hz (by omega) (by omega) (fun i hi => by rw [hcv i (by omega)]; exact hall _ (List.getElem_mem _)) hfr hlo) (fun P a hp => ⟨hp.1, hp.2.1, hp.2.2.1, by rw [e]; exact hp.2.2.2⟩) (fun P a v B hp hq => ?_)
  obtain ⟨L, ⟨q1, q2, q3, q4, q5, q6, q7, ⟨V', v1, v2, v3, v4, v5⟩, q9⟩, hl, hc, hs⟩ := hq
  refine ⟨L, ⟨q1, q2, q3, q4, q5, q6, q7, ⟨V'.cls, v3, V', v1, rfl, by rw [v4, e, hlen], K4, fun i hi => ?_, fun i hi => ?_⟩, q9⟩, hl, hc, by rw [hs, e]⟩
  · have hi' : i < cs.length := by omega
    rw [v5 i (by omega), hcv i hi']; simp [List.getD_eq_getElem?_getD, hi']
  · have hi' : i < cs.length := by omega
    simp only [List.getD_eq_getElem?_getD, List.getElem?_map, List.getElem?_eq_getElem hi', Option.map_some, Option.getD_some]
    exact fits_lo8 _
end StrChars.Road
namespace StrChars.Road
open Jvm Sem ClassFile Op Lib Jvm.Stand Jvm.Free Jvm.Free.XT
/-- WHAT COMES BACK, in the writer's own shape -/
def QV (Z : State) (x : Addr) (N : Int32) (bs : List Int32) (h : Heap) (n0 : Nat) (v : Option Value) (h' : Heap) (L : List Loc) : Prop := v = none ∧ RoadKit.Fr n0 L ∧ RoadKit.Keep h h' [x] ∧ RoadKit.Exa Z h' x ST ∧ RoadKit.Fld Z h' x ST "coder" "B" (.int 0) ∧
  ∃ (t : Addr) (kb : ClassId), n0 ≤ t ∧ h.size ≤ t ∧ ¬ t = x ∧ RoadKit.Fld Z h' x ST "value" "[B" (.ref t) ∧ RoadKit.Arv Z h' t kb .byte N (bs.map Value.int) (.int 0)
/-- **new String(chars) AT A CALL, FOR THE WRITER**: a char[] of n known ints, each 0 to 255 -/
theorem backV {p : Program} {l : Launch} {e : Env} {R : Room} {s : State} {args : Array Value} {below : List Frame} {len W : Nat} {Z : State} {a0 : Array Value} {h : Heap} (hZ : Z.Warmed39 s.vm) (hw : ∀ d ∈ words, d.before a0 Z = true) {kI : Nat} (wi : (Jvm.Cond.instantiable ST kI).before a0 Z = true)
    {x b : Addr} {kC : ClassId} {cs bs : List Int32} {d v0 c0 : Value} {z N : Int32} {n n0 : Nat} (hx0 : n0 ≤ x) (hh0 : n0 ≤ h.size) (E : RoadKit.Exa Z h x ST) (V : RoadKit.Fld Z h x ST "value" "[B" v0) (C : RoadKit.Fld Z h x ST "coder" "B" c0) (K : RoadKit.Arv Z h b kC .char N (cs.map Value.int) d) (S : RoadKit.Sta Z h ST "COMPACT_STRINGS" "Z" (.int z)) (hz : ¬ z = 0)
    (hn : cs.length = n) (hN : N = Int32.ofNat n) (l0 : 0 < n) (l2 : n ≤ 4000) (hp : ∀ c ∈ cs, ¬ c < 0 ∧ ¬ (255 : Int32) < c) (hb : bs = cs.map (fun c => c.toInt8.toInt32)) (hfr : 4 ≤ R.frames) (hlo : W + 65 ≤ R.locals) :
    Back l R p e below s args (⟨"java/lang/String", "<init>", "([C)V"⟩ : MethodName) len W (fun P a => a = #[.ref x, .ref b] ∧ P.U.heap = h ∧ P.cells + 1 ≤ R.cells ∧ P.slots + n ≤ R.slots)
      (fun P _ v B => ∃ L, QV Z x N bs h n0 v B.U.heap L ∧ B.locs = P.locs ++ L ∧ B.cells = P.cells + 1 ∧ B.slots = P.slots + n) := by
  subst hn hN hb
  refine Back.mono (backArv hZ hw wi E V C K S hz (n32 (by omega)) l0 (by omega) (fun c hc => (hp c hc).2) hfr hlo) (fun P a hp => hp) (fun P a v B hp hq => ?_)
  obtain ⟨L, ⟨q1, q2, q3, q4, q5, q6, q7, ⟨kb, v1, v2⟩, q9⟩, hl, hc, hs⟩ := hq
  exact ⟨L, ⟨q1, fun y hy => by rw [q2 y hy]; exact hx0, q3, q5, q7, h.size, kb, hh0, Nat.le_refl _, Nat.ne_of_gt E.lt, q6, by rw [List.map_map]; exact v2⟩, hl, hc, hs⟩
end StrChars.Road
end Jvm.Pilot.@@N@@
namespace Jvm.RoadKit
open Sem ClassFile Op Lib Jvm.Stand Jvm.Free Jvm.LawKit
section New
variable {p : Program} {l : Launch} {e : Env} {R : Room} {s : State} {m : MethodId} {args : Array Value} {below : List Frame} {meth : Method} {c : Code} {T : State} {locs : List Loc} {cells slots : Nat}
theorem retI (X : Stand p l e R s m args below meth c T locs cells slots) (hx : p.tables.exec = Jvm.exec) {pc : Nat} {Ls : Array Slot} {z : Int32} {rest : List Value} (hret : meth.sig.returnType = some .int) (hd : decode c.code pc = .ok (.ireturn, 1)) {fs : List Frame}
    (hl : ∀ (f : JFrame) (acts : List Action), f.method = m → f.locked = none → f.entered = [] → (doReturn e (T.setTop f) acts (some (.int z))).1 = T.setFrames fs) : Steps p.tables e below (T.setTop (mkF m pc Ls (.int z :: rest))) (T.setFrames fs) := by
  have hm' : T.vm.method? m = some meth := X.method'
  have hn : narrow .int (.int z) = .int z := rfl
  show Steps p.tables e below (T.setTop { method := m, pc := pc, locals := Ls, stack := _ :: rest, locked := none }) _
  jvm_step X.here [X.here.top, hx, hd, hm', hret, hn]
  first | (intro acts; rw [hl _ acts rfl rfl rfl]) | rw [hl _ _ rfl rfl rfl]
  exact Steps.refl _
end New
end Jvm.RoadKit
namespace Jvm.Pilot.@@N@@
open Jvm Jvm.ClassFile Sem Op Lib Jvm.Free Jvm.Stand Jvm.LawKit Jvm.RoadKit Bundle Jvm.Pilot.@@N@@.Jvm.D
/-- every run from the state T with the frame f on top is a run from s0 with f0 -/
def GoTo (tb : Tables) (e : Env) (below : List Frame) (s0 : State) (f0 : JFrame) (T : State) (f : JFrame) : Prop := ∀ t, Steps tb e below (T.setTop f) t → Steps tb e below (s0.setTop f0) t
theorem own_cI (x : Int32) : (Value.int x).category = 1 := rfl
theorem own_cJ (x : Int64) : (Value.long x).category = 2 := rfl
theorem own_cR (x : Addr) : (Value.ref x).category = 1 := rfl
theorem own_cN : Value.null.category = 1 := rfl
theorem own_zlt {Z : State} {n0 : Nat} {h : Heap} {a : Addr} (O : Old Z n0 h) (q : a < Z.heap.size) : a < n0 := O.1 ▸ q
theorem own_selfSel {s : State} {args : Array Value} {C : String} {y : MethodName} (hsel : (Cond.selects C y y).before args s = true) (hpriv : s.PrivateAt y) (hinst : (Cond.instanceMethod y).before args s = true) (hy : y.cls ≠ "java/lang/invoke/MethodHandle" ∧ y.cls ≠ "java/lang/invoke/VarHandle") : (Cond.selects y.cls y y).before args s = true := by
  obtain ⟨c2, r2, m2, -, -, q3, -, kP, hkP, hkPi⟩ := Cond.selects_spec hsel
  exact selects_self_of_private (findClass_of_methodNamed q3) hkP hkPi hpriv hinst hy
theorem own_sameSelf {s : State} {args : Array Value} {C : String} {y z : MethodName} (hsel : (Cond.selects C z z).before args s = true) (hzy : z.cls = y.cls) (hinst : (Cond.instanceMethod y).before args s = true) (hy : y.cls ≠ "java/lang/invoke/MethodHandle" ∧ y.cls ≠ "java/lang/invoke/VarHandle") : (Cond.sameMethod y.cls y.cls y.name y.desc).before args s = true := by
  obtain ⟨c2, r2, m2, -, -, q3, -, kP, hkP, hkPi⟩ := Cond.selects_spec hsel
  obtain ⟨mk, methM, hnamed, hmethM, -, -⟩ := Cond.instanceMethod_spec hinst
  have h1 := findClass_of_methodNamed q3
  have h2 := findClass_of_methodNamed hnamed
  rw [hzy] at h1
  have hcls : mk.cls = m2.cls := Option.some.inj (h2.symm.trans h1)
  have hf := State.methodFound?_of_named hnamed hy
  obtain ⟨yc, yn, yd⟩ := y
  dsimp only at h1 h2 hf ⊢
  simp only [Cond.before, Cond.holds, Cond.value, h2, hf, hnamed, hcls, hkP]
  simp [hkPi]
theorem own_notFace {s : State} {args : Array Value} {C : String} {x y z : MethodName} (hsel : (Cond.selects C x z).before args s = true) (hzy : z.cls = y.cls) : NotFace s y := fun r0 h0 => by
  obtain ⟨c2, r2, m2, -, -, q3, -, kP, hkP, hkPi⟩ := Cond.selects_spec hsel
  have h1 := findClass_of_methodNamed q3
  rw [hzy] at h1
  have h2 := findClass_of_methodNamed h0
  have e : m2.cls = r0.cls := Option.some.inj (h1.symm.trans h2)
  exact ⟨kP, e ▸ hkP, hkPi⟩
theorem own_le {Z : State} {n0 : Nat} {h : Heap} (O : Old Z n0 h) : n0 ≤ h.size := O.1 ▸ O.2.1
theorem own_mono {p : Program} {l : Launch} {e : Env} {R : Room} {s : State} {m : MethodId} {args : Array Value} {below : List Frame} {meth : Method} {c : Code} {T : State} {locs : List Loc} {cells slots cells' slots' : Nat} (X : Stand p l e R s m args below meth c T locs cells slots) (h1 : cells ≤ cells') (h2 : slots ≤ slots') : Stand p l e R s m args below meth c T locs cells' slots' := { X with same := X.same.mono h1 h2 }
theorem own_NSroot {Z : State} {a0 : Array Value} {O K : String} {n : Nat} (w : (Jvm.Cond.noSuperclass O).before a0 Z = true) (wk : (Jvm.Cond.instantiable K n).before a0 Z = true) (hn : O ≠ K) : NS Z O K := by
  obtain ⟨c, k, h1, h2, h3, -, -⟩ := Cond.noSuperclass_spec w
  obtain ⟨t, k2, g1, -⟩ := Cond.instantiable_spec wk
  have ne := ids_ne h1 g1 hn
  refine ⟨c, t, h1, g1, fun fuel => ?_⟩
  cases fuel with
  | zero => rfl
  | succ f => simp [Vm.isSubclassAux, ne, h2, h3]
theorem own_NSno {Z : State} {a0 : Array Value} {C S K : String} {n : Nat} (w : (Jvm.Cond.superclass C S).before a0 Z = true) (wk : (Jvm.Cond.instantiable K n).before a0 Z = true) (nn : NS Z C K) (hn : C ≠ K) : ∃ c t, Z.vm.findClass C = some c ∧ Z.vm.findClass K = some t ∧ Z.vm.assignable c t = false := by
  obtain ⟨c, t, h0, g0, n3⟩ := nn
  obtain ⟨p, k, kp, h1, h2, h3, h4, h5, -, h7⟩ := Cond.superclass_spec h0 w
  obtain ⟨t', k', g1, g2, g5, g7, -⟩ := Cond.instantiable_spec wk
  cases g0.symm.trans g1
  have ne := ids_ne h0 g0 hn
  refine ⟨c, t, h0, g0, ?_⟩
  show Z.vm.assignableAux (255 + 1) c t = false
  have g8 : k'.isInterface = false := (Bool.or_eq_false_iff.mp g7).1
  simp [Vm.assignableAux, ne, h2, g2, h5, g5, g8, Vm.isSubclass, n3]
def own_Mir (Z : State) (C : String) (m : Addr) : Prop := ∃ (c : ClassId) (k : Class), Z.vm.findClass C = some c ∧ Z.vm.classes[c]? = some k ∧ k.mirror = some m
theorem own_mir {Z s : State} {C : String} {mr : Addr} {args : Array Value} (hZ : Z.Warmed39 s.vm) (M : own_Mir Z C mr) : (Term.mirror C).eval args s none [] s = some (.ref mr) := by
  obtain ⟨c, k, m1, m2, m3⟩ := M
  obtain ⟨k', q, ek⟩ := hZ.alike.2.2 _ _ m2
  have h1 : s.vm.findClass C = some c := by rw [hZ.alike.findClass]; exact m1
  have h2 : k'.mirror = some mr := by rw [ek]; exact m3
  simp [Term.eval, h1, q, h2]
theorem own_gcls {p : Program} {l : Launch} {e : Env} {R : Room} {s : State} {m : MethodId} {args : Array Value} {below : List Frame} {meth : Method} {c : Code} {T : State} {locs : List Loc} {cells slots : Nat} {Z : State} {h : Heap} {a : Addr} (X : Stand p l e R s m args below meth c T locs cells slots) (hx : p.tables.exec = Jvm.exec) (hZ : Z.Warmed39 s.vm) {a0 : Array Value} {own C : String} {index : Nat} (hown : s.vm.findClass own = some m.cls)
    (w1 : (Jvm.Cond.methodLink own index ⟨"java/lang/Object", "getClass", "()Ljava/lang/Class;"⟩).before a0 Z = true) (w2 : (Jvm.Cond.declares ⟨"java/lang/Object", "getClass", "()Ljava/lang/Class;"⟩).before a0 Z = true) (w3 : (Jvm.Cond.noSuperclass "java/lang/Object").before a0 Z = true) (w4 : (Jvm.Cond.selects C ⟨"java/lang/Object", "getClass", "()Ljava/lang/Class;"⟩ ⟨"java/lang/Object", "getClass", "()Ljava/lang/Class;"⟩).before a0 Z = true)
    (w5 : (Jvm.Cond.instanceMethod ⟨"java/lang/Object", "getClass", "()Ljava/lang/Class;"⟩).before a0 Z = true) (w6 : (Jvm.Cond.native ⟨"java/lang/Object", "getClass", "()Ljava/lang/Class;"⟩).before a0 Z = true) (eT : T.heap = h) (E : Exa Z h a C) {mr : Addr} (M : own_Mir Z C mr)
    {g : JFrame} (hg : g.method = m) (hsize : g.locals.size = c.maxLocals) {rest : List Value} (hs : g.stack = .ref a :: rest) (hd : decode c.code g.pc = .ok (.invokevirtual index, 3)) (hf : 1 ≤ R.frames) {W : Nat} (hW : 2 * g.monitorRoom + (rest.map fun v => v.category).sum ≤ W) (hl : W + (nativeFrameWords "java/lang/Object" "getClass" 1 + 11) ≤ R.locals) :
    ∃ T', Stand p l e R s m args below meth c T' locs cells slots ∧ T'.heap = h ∧ ∀ target, Steps p.tables e below (T'.setTop { g with pc := g.pc + 3, stack := .ref mr :: rest }) target → Steps p.tables e below (T.setTop g) target := by
  obtain ⟨cB, kB, i1, i2, i3⟩ := isOf hZ eT E
  obtain ⟨cc, kc, m1, m2, m3⟩ := M
  have j1 : s.vm.findClass C = some cc := by rw [hZ.alike.findClass]; exact m1
  obtain rfl : cc = cB := Option.some.inj (j1.symm.trans i1)
  obtain ⟨k', q, ek⟩ := hZ.alike.2.2 _ _ m2
  obtain ⟨vm', X', st⟩ := X.getClassOf hx hown (mvT hZ w1) (mvT hZ w2) (nf_top (args := #[]) (mvT hZ w3)) (mvT hZ w4) (mvT hZ w5) (mvT hZ w6) j1 i3 q (by rw [ek]; exact m3) hg hsize hs hd hf (by omega)
  exact ⟨_, X', eT, st⟩
theorem own_cat {v : Value} (h : v.isRef = true) : v.category = 1 := by cases v <;> simp_all [Value.isRef, Value.category]
theorem own_fits_ref {ty : FieldType} {v : Value} (ht : refKind ty = true) (h : v.isRef = true) : fits ty v = true := by cases ty <;> cases v <;> simp_all [refKind, fits, Value.isRef]
theorem own_all0 : ∀ c ∈ ([] : List Int32), ¬ c < 0 ∧ ¬ (255 : Int32) < c := fun _ q => nomatch q
theorem own_allC {a : Int32} {L : List Int32} (h : ¬ a < 0 ∧ ¬ (255 : Int32) < a) (r : ∀ c ∈ L, ¬ c < 0 ∧ ¬ (255 : Int32) < c) : ∀ c ∈ a :: L, ¬ c < 0 ∧ ¬ (255 : Int32) < c := fun x z => (List.mem_cons.mp z).elim (fun u => u ▸ h) (r x)
theorem own_up {cs : List Int32} (h : ∀ c ∈ cs, ¬ c < 0 ∧ ¬ (255 : Int32) < c) : ∀ c ∈ cs, ¬ c < 0 ∧ ¬ (65535 : Int32) < c := fun c hc => ⟨(h c hc).1, fun q => (h c hc).2 (by rw [Int32.lt_iff_toInt_lt] at q ⊢; have e1 : (65535 : Int32).toInt = 65535 := rfl; have e2 : (255 : Int32).toInt = 255 := rfl; omega)⟩
theorem own_chr (x : Int32) {z : Int32} (h : z = ((x &&& (255 : Int32)).toUInt32.toUInt16.toUInt32.toInt32)) : (¬ z < 0 ∧ ¬ (255 : Int32) < z) ∧ nar .char z = z := by
  subst h
  rw [i2c_mask]
  have h1 : (x &&& (255 : Int32)).toInt = x.toInt % 2 ^ 8 := Jvm.Kit.i32_mask x 255 (k := 8) (by decide) (by decide)
  have e0 : (0 : Int32).toInt = 0 := by decide
  have e1 : (255 : Int32).toInt = 255 := by decide
  refine ⟨⟨?_, ?_⟩, i2c_mask x⟩ <;> rw [Int32.lt_iff_toInt_lt] <;> omega
theorem own_eqv {v : Option Value} {cs ds : List Int32} (h : (v = some (.int 1) ∧ cs = ds) ∨ (v = some (.int 0) ∧ ¬ cs = ds)) : v = some (.int (if cs = ds then (1 : Int32) else 0)) := by
  rcases h with ⟨rfl, h⟩ | ⟨rfl, h⟩
  · rw [if_pos h]
  · rw [if_neg h]
section OwnStr
variable {Z : State} {h h' : Heap} {x t a : Addr} {kb : ClassId} {cs : List Int32} {sl : Nat} {v : Value} {ws : List Addr}
/-- the String at x, her byte[] at t, spells cs -/
def own_Str (Z : State) (h : Heap) (x t : Addr) (kb : ClassId) (cs : List Int32) : Prop :=
  Exa Z h x "java/lang/String" ∧ Fld Z h x "java/lang/String" "value" "[B" (.ref t) ∧ Fld Z h x "java/lang/String" "coder" "B" (.int 0) ∧ Arv Z h t kb .byte (Int32.ofNat cs.length) ((cs.map fun c => c.toInt8.toInt32).map Value.int) (.int 0) ∧ (∀ c ∈ cs, ¬ c < 0 ∧ ¬ (255 : Int32) < c) ∧ cs.length ≤ 4000
theorem own_Str.ext (F : own_Str Z h x t kb cs) (E : Ext h h') : own_Str Z h' x t kb cs := ⟨F.1.ext E, F.2.1.ext E, F.2.2.1.ext E, F.2.2.2.1.ext E, F.2.2.2.2⟩
theorem own_Str.keep (F : own_Str Z h x t kb cs) (K : Keep h h' ws) (q : x ∉ ws) (r : t ∉ ws) : own_Str Z h' x t kb cs := ⟨F.1.keep K, F.2.1.keep K q, F.2.2.1.keep K q, F.2.2.2.1.keep K r, F.2.2.2.2⟩
theorem own_Str.other (F : own_Str Z h x t kb cs) (W : Wr h h' a sl v) (q : x ≠ a) (r : t ≠ a) : own_Str Z h' x t kb cs := ⟨F.1.wr W, F.2.1.other W (Or.inl q), F.2.2.1.other W (Or.inl q), F.2.2.2.1.other W r, F.2.2.2.2⟩
/-- null, or a String -/
def own_NS (Z : State) (h : Heap) (v : Value) : Prop := v = .null ∨ ∃ a, v = .ref a ∧ Exa Z h a "java/lang/String"
theorem own_NS.ref (F : own_NS Z h v) : v.isRef = true := by rcases F with rfl | ⟨a, rfl, -⟩ <;> rfl
theorem own_NS.ext (F : own_NS Z h v) (E : Ext h h') : own_NS Z h' v := F.imp id fun ⟨a, e, X⟩ => ⟨a, e, X.ext E⟩
theorem own_NS.wr {w : Value} (F : own_NS Z h v) (W : Wr h h' a sl w) : own_NS Z h' v := F.imp id fun ⟨a, e, X⟩ => ⟨a, e, X.wr W⟩
theorem own_NS.keep (F : own_NS Z h v) (K : Keep h h' ws) : own_NS Z h' v := F.imp id fun ⟨a, e, X⟩ => ⟨a, e, X.keep K⟩
end OwnStr
theorem own_d_method_2_code_0 : decode method_2_code 0 = .ok (.iload_n 0, 1) := by decide +kernel
theorem own_d_method_2_code_1 : decode method_2_code 1 = .ok (.bipush 7, 2) := by decide +kernel
theorem own_d_method_2_code_3 : decode method_2_code 3 = .ok (.iand, 1) := by decide +kernel
theorem own_d_method_2_code_4 : decode method_2_code 4 = .ok (.istore_n 1, 1) := by decide +kernel
theorem own_d_method_2_code_5 : decode method_2_code 5 = .ok (.iload_n 1, 1) := by decide +kernel
theorem own_d_method_2_code_6 : decode method_2_code 6 = .ok (.ifCond .ne 7, 3) := by decide +kernel
theorem own_d_method_2_code_9 : decode method_2_code 9 = .ok (.getstatic 7, 3) := by decide +kernel
theorem own_d_method_2_code_12 : decode method_2_code 12 = .ok (.areturn, 1) := by decide +kernel
theorem own_d_method_2_code_13 : decode method_2_code 13 = .ok (.iload_n 1, 1) := by decide +kernel
theorem own_d_method_2_code_14 : decode method_2_code 14 = .ok (.iconst 1, 1) := by decide +kernel
theorem own_d_method_2_code_15 : decode method_2_code 15 = .ok (.if_icmp .ne 7, 3) := by decide +kernel
theorem own_d_method_2_code_18 : decode method_2_code 18 = .ok (.getstatic 13, 3) := by decide +kernel
theorem own_d_method_2_code_21 : decode method_2_code 21 = .ok (.areturn, 1) := by decide +kernel
theorem own_d_method_2_code_22 : decode method_2_code 22 = .ok (.iload_n 1, 1) := by decide +kernel
theorem own_d_method_2_code_23 : decode method_2_code 23 = .ok (.iconst 2, 1) := by decide +kernel
theorem own_d_method_2_code_24 : decode method_2_code 24 = .ok (.if_icmp .ne 7, 3) := by decide +kernel
theorem own_d_method_2_code_27 : decode method_2_code 27 = .ok (.getstatic 16, 3) := by decide +kernel
theorem own_d_method_2_code_30 : decode method_2_code 30 = .ok (.areturn, 1) := by decide +kernel
theorem own_d_method_2_code_31 : decode method_2_code 31 = .ok (.iload_n 1, 1) := by decide +kernel
theorem own_d_method_2_code_32 : decode method_2_code 32 = .ok (.iconst 3, 1) := by decide +kernel
theorem own_d_method_2_code_33 : decode method_2_code 33 = .ok (.if_icmp .ne 7, 3) := by decide +kernel
theorem own_d_method_2_code_36 : decode method_2_code 36 = .ok (.getstatic 19, 3) := by decide +kernel
theorem own_d_method_2_code_39 : decode method_2_code 39 = .ok (.areturn, 1) := by decide +kernel
theorem own_d_method_2_code_40 : decode method_2_code 40 = .ok (.iload_n 1, 1) := by decide +kernel
theorem own_d_method_2_code_41 : decode method_2_code 41 = .ok (.iconst 4, 1) := by decide +kernel
theorem own_d_method_2_code_42 : decode method_2_code 42 = .ok (.if_icmp .ne 7, 3) := by decide +kernel
theorem own_d_method_2_code_45 : decode method_2_code 45 = .ok (.getstatic 22, 3) := by decide +kernel
theorem own_d_method_2_code_48 : decode method_2_code 48 = .ok (.areturn, 1) := by decide +kernel
theorem own_d_method_2_code_49 : decode method_2_code 49 = .ok (.iload_n 1, 1) := by decide +kernel
theorem own_d_method_2_code_50 : decode method_2_code 50 = .ok (.iconst 5, 1) := by decide +kernel
theorem own_d_method_2_code_51 : decode method_2_code 51 = .ok (.if_icmp .ne 7, 3) := by decide +kernel
theorem own_d_method_2_code_54 : decode method_2_code 54 = .ok (.getstatic 25, 3) := by decide +kernel
theorem own_d_method_2_code_57 : decode method_2_code 57 = .ok (.areturn, 1) := by decide +kernel
theorem own_d_method_2_code_58 : decode method_2_code 58 = .ok (.iload_n 1, 1) := by decide +kernel
theorem own_d_method_2_code_59 : decode method_2_code 59 = .ok (.bipush 6, 2) := by decide +kernel
theorem own_d_method_2_code_61 : decode method_2_code 61 = .ok (.if_icmp .ne 7, 3) := by decide +kernel
theorem own_d_method_2_code_64 : decode method_2_code 64 = .ok (.getstatic 28, 3) := by decide +kernel
theorem own_d_method_2_code_67 : decode method_2_code 67 = .ok (.areturn, 1) := by decide +kernel
theorem own_d_method_2_code_68 : decode method_2_code 68 = .ok (.getstatic 31, 3) := by decide +kernel
theorem own_d_method_2_code_71 : decode method_2_code 71 = .ok (.areturn, 1) := by decide +kernel
theorem own_d_prog_184_method_1_code_0 : decode prog_184_method_1_code 0 = .ok (.aload_n 0, 1) := by decide +kernel
theorem own_d_prog_184_method_1_code_1 : decode prog_184_method_1_code 1 = .ok (.invokespecial 1, 3) := by decide +kernel
theorem own_d_prog_184_method_1_code_4 : decode prog_184_method_1_code 4 = .ok (.return_, 1) := by decide +kernel
theorem own_d_method_3_code_0 : decode method_3_code 0 = .ok (.iload_n 1, 1) := by decide +kernel
theorem own_d_method_3_code_1 : decode method_3_code 1 = .ok (.ifCond .eq 5, 3) := by decide +kernel
theorem own_d_method_3_code_6 : decode method_3_code 6 = .ok (.iconst 2, 1) := by decide +kernel
theorem own_d_method_3_code_7 : decode method_3_code 7 = .ok (.newarray .char, 2) := by decide +kernel
theorem own_d_method_3_code_9 : decode method_3_code 9 = .ok (.astore_n 2, 1) := by decide +kernel
theorem own_d_method_3_code_10 : decode method_3_code 10 = .ok (.aload_n 2, 1) := by decide +kernel
theorem own_d_method_3_code_11 : decode method_3_code 11 = .ok (.iconst 0, 1) := by decide +kernel
theorem own_d_method_3_code_12 : decode method_3_code 12 = .ok (.iload_n 0, 1) := by decide +kernel
theorem own_d_method_3_code_13 : decode method_3_code 13 = .ok (.sipush 255, 3) := by decide +kernel
theorem own_d_method_3_code_16 : decode method_3_code 16 = .ok (.iand, 1) := by decide +kernel
theorem own_d_method_3_code_17 : decode method_3_code 17 = .ok (.i2c, 1) := by decide +kernel
theorem own_d_method_3_code_18 : decode method_3_code 18 = .ok (.castore, 1) := by decide +kernel
theorem own_d_method_3_code_19 : decode method_3_code 19 = .ok (.aload_n 2, 1) := by decide +kernel
theorem own_d_method_3_code_20 : decode method_3_code 20 = .ok (.iconst 1, 1) := by decide +kernel
theorem own_d_method_3_code_21 : decode method_3_code 21 = .ok (.iload_n 0, 1) := by decide +kernel
theorem own_d_method_3_code_22 : decode method_3_code 22 = .ok (.bipush 8, 2) := by decide +kernel
theorem own_d_method_3_code_24 : decode method_3_code 24 = .ok (.iushr, 1) := by decide +kernel
theorem own_d_method_3_code_25 : decode method_3_code 25 = .ok (.sipush 255, 3) := by decide +kernel
theorem own_d_method_3_code_28 : decode method_3_code 28 = .ok (.iand, 1) := by decide +kernel
theorem own_d_method_3_code_29 : decode method_3_code 29 = .ok (.i2c, 1) := by decide +kernel
theorem own_d_method_3_code_30 : decode method_3_code 30 = .ok (.castore, 1) := by decide +kernel
theorem own_d_method_3_code_31 : decode method_3_code 31 = .ok (.new 34, 3) := by decide +kernel
theorem own_d_method_3_code_34 : decode method_3_code 34 = .ok (.dup, 1) := by decide +kernel
theorem own_d_method_3_code_35 : decode method_3_code 35 = .ok (.aload_n 2, 1) := by decide +kernel
theorem own_d_method_3_code_36 : decode method_3_code 36 = .ok (.invokespecial 36, 3) := by decide +kernel
theorem own_in_words : ∀ d ∈ StrChars.Road.words, d ∈ tables_1 := by decide +kernel
theorem own_pd0 : parseMethodDescriptor "([C)V" = some ⟨[(.array .char)], none⟩ := by decide +kernel
theorem own_d_method_3_code_39 : decode method_3_code 39 = .ok (.areturn, 1) := by decide +kernel
theorem own_d_method_3_code_4 : decode method_3_code 4 = .ok (.aconst_null, 1) := by decide +kernel
theorem own_d_method_3_code_5 : decode method_3_code 5 = .ok (.areturn, 1) := by decide +kernel
theorem own_d_prog_184_method_2_code_0 : decode prog_184_method_2_code 0 = .ok (.aload_n 0, 1) := by decide +kernel
theorem own_d_prog_184_method_2_code_1 : decode prog_184_method_2_code 1 = .ok (.aload_n 1, 1) := by decide +kernel
theorem own_d_prog_184_method_2_code_2 : decode prog_184_method_2_code 2 = .ok (.putfield 7, 3) := by decide +kernel
theorem own_d_prog_184_method_2_code_5 : decode prog_184_method_2_code 5 = .ok (.aload_n 0, 1) := by decide +kernel
theorem own_d_prog_184_method_2_code_6 : decode prog_184_method_2_code 6 = .ok (.iload_n 2, 1) := by decide +kernel
theorem own_d_prog_184_method_2_code_7 : decode prog_184_method_2_code 7 = .ok (.putfield 13, 3) := by decide +kernel
theorem own_d_prog_184_method_2_code_10 : decode prog_184_method_2_code 10 = .ok (.aload_n 0, 1) := by decide +kernel
theorem own_d_prog_184_method_2_code_11 : decode prog_184_method_2_code 11 = .ok (.iload_n 3, 1) := by decide +kernel
theorem own_d_prog_184_method_2_code_12 : decode prog_184_method_2_code 12 = .ok (.putfield 17, 3) := by decide +kernel
theorem own_d_prog_184_method_2_code_15 : decode prog_184_method_2_code 15 = .ok (.aload_n 0, 1) := by decide +kernel
theorem own_d_prog_184_method_2_code_16 : decode prog_184_method_2_code 16 = .ok (.aload 4, 2) := by decide +kernel
theorem own_d_prog_184_method_2_code_18 : decode prog_184_method_2_code 18 = .ok (.putfield 20, 3) := by decide +kernel
theorem own_d_prog_184_method_2_code_21 : decode prog_184_method_2_code 21 = .ok (.return_, 1) := by decide +kernel
theorem own_d_prog_184_method_3_code_0 : decode prog_184_method_3_code 0 = .ok (.aload_n 0, 1) := by decide +kernel
theorem own_d_prog_184_method_3_code_1 : decode prog_184_method_3_code 1 = .ok (.getfield 7, 3) := by decide +kernel
theorem own_d_prog_184_method_3_code_4 : decode prog_184_method_3_code 4 = .ok (.areturn, 1) := by decide +kernel
theorem own_d_prog_184_method_4_code_0 : decode prog_184_method_4_code 0 = .ok (.aload_n 0, 1) := by decide +kernel
theorem own_d_prog_184_method_4_code_1 : decode prog_184_method_4_code 1 = .ok (.getfield 13, 3) := by decide +kernel
theorem own_d_prog_184_method_4_code_4 : decode prog_184_method_4_code 4 = .ok (.ireturn, 1) := by decide +kernel
theorem own_d_prog_184_method_5_code_0 : decode prog_184_method_5_code 0 = .ok (.aload_n 0, 1) := by decide +kernel
theorem own_d_prog_184_method_5_code_1 : decode prog_184_method_5_code 1 = .ok (.getfield 17, 3) := by decide +kernel
theorem own_d_prog_184_method_5_code_4 : decode prog_184_method_5_code 4 = .ok (.ireturn, 1) := by decide +kernel
theorem own_d_prog_184_method_6_code_0 : decode prog_184_method_6_code 0 = .ok (.aload_n 0, 1) := by decide +kernel
theorem own_d_prog_184_method_6_code_1 : decode prog_184_method_6_code 1 = .ok (.getfield 20, 3) := by decide +kernel
theorem own_d_prog_184_method_6_code_4 : decode prog_184_method_6_code 4 = .ok (.areturn, 1) := by decide +kernel
theorem own_pd1 : parseMethodDescriptor "()V" = some ⟨[], none⟩ := by decide +kernel
theorem own_pd2 : parseMethodDescriptor "(I)Lcom/example/interfold/interfold/slice/Token$Kind;" = some ⟨[.int], some (.object "com/example/interfold/interfold/slice/Token$Kind")⟩ := by decide +kernel
theorem own_pd3 : parseMethodDescriptor "(II)Ljava/lang/String;" = some ⟨[.int, .int], some (.object "java/lang/String")⟩ := by decide +kernel
theorem own_pd4 : parseMethodDescriptor "(Lcom/example/interfold/interfold/slice/Token$Kind;IILjava/lang/String;)V" = some ⟨[(.object "com/example/interfold/interfold/slice/Token$Kind"), .int, .int, (.object "java/lang/String")], none⟩ := by decide +kernel
theorem own_pd5 : parseMethodDescriptor "()Lcom/example/interfold/interfold/slice/Token$Kind;" = some ⟨[], some (.object "com/example/interfold/interfold/slice/Token$Kind")⟩ := by decide +kernel
theorem own_pd6 : parseMethodDescriptor "()I" = some ⟨[], some .int⟩ := by decide +kernel
theorem own_pd7 : parseMethodDescriptor "()Ljava/lang/String;" = some ⟨[], some (.object "java/lang/String")⟩ := by decide +kernel
theorem own_pn_own_pick : plainName "com/example/interfold/interfold/slice/TokenSet141PinLaw" = true := by first | (simp [plainName, overriddenIn]; done) | decide +kernel
theorem own_ef_own_pick (m : MethodId) (i : Int32) : entryFrame m #[(.int i)] 2 = mkF m 0 #[.val (.int i), .unset] [] := by first | (simp [entryFrame, mkF, argsToLocals, own_cI, own_cJ, own_cR, own_cN]; done) | rfl
abbrev own_F_own_pick (m : MethodId) (i : Int32) : JFrame := entryFrame m #[(.int i)] 2
def Q_own_pick (Z : State) (i : Int32) (u0 : Addr) (u1 : Addr) (u2 : Addr) (u3 : Addr) (u4 : Addr) (u5 : Addr) (u6 : Addr) (u7 : Addr) (h0 : Heap) (n0 : Nat) (v : Option Value) (h : Heap) (L : List Loc) : Prop := ∃ (kd : Addr), v = some (.ref kd) ∧ Fr n0 L ∧ h = h0
set_option maxRecDepth 65536 in
set_option maxHeartbeats 40000000 in
theorem own_pick (l : Launch) (Z : State) (a0 : Array Value) (hw : ∀ d ∈ tables_1, d.before a0 Z = true) (ws : List Jvm.Cond) (i : Int32) (u0 : Addr) (u1 : Addr) (u2 : Addr) (u3 : Addr) (u4 : Addr) (u5 : Addr) (u6 : Addr) (u7 : Addr) (h0 : Heap) (n0 : Nat) (O0 : Old Z n0 h0) (hp0 : Sta Z Z.heap "com/example/interfold/interfold/slice/Token$Kind" "IDENTIFIER" "Lcom/example/interfold/interfold/slice/Token$Kind;" (.ref u0)) (hp1 : Sta Z Z.heap "com/example/interfold/interfold/slice/Token$Kind" "KEYWORD" "Lcom/example/interfold/interfold/slice/Token$Kind;" (.ref u1)) (hp2 : Sta Z Z.heap "com/example/interfold/interfold/slice/Token$Kind" "INTEGER" "Lcom/example/interfold/interfold/slice/Token$Kind;" (.ref u2)) (hp3 : Sta Z Z.heap "com/example/interfold/interfold/slice/Token$Kind" "STRING" "Lcom/example/interfold/interfold/slice/Token$Kind;" (.ref u3)) (hp4 : Sta Z Z.heap "com/example/interfold/interfold/slice/Token$Kind" "DOC_COMMENT" "Lcom/example/interfold/interfold/slice/Token$Kind;" (.ref u4)) (hp5 : Sta Z Z.heap "com/example/interfold/interfold/slice/Token$Kind" "LEFT_PAREN" "Lcom/example/interfold/interfold/slice/Token$Kind;" (.ref u5)) (hp6 : Sta Z Z.heap "com/example/interfold/interfold/slice/Token$Kind" "ARROW" "Lcom/example/interfold/interfold/slice/Token$Kind;" (.ref u6)) (hp7 : Sta Z Z.heap "com/example/interfold/interfold/slice/Token$Kind" "END" "Lcom/example/interfold/interfold/slice/Token$Kind;" (.ref u7)) :
    MetFree l (⟨"com/example/interfold/interfold/slice/TokenSet141PinLaw", "pick", "(I)Lcom/example/interfold/interfold/slice/Token$Kind;"⟩ : MethodName) (head1 (Jvm.Cond.code (⟨"com/example/interfold/interfold/slice/TokenSet141PinLaw", "pick", "(I)Lcom/example/interfold/interfold/slice/Token$Kind;"⟩ : MethodName) method_2_code 2 (some (.object "com/example/interfold/interfold/slice/Token$Kind")) :: ws) ({ frames := 0, cells := 0, slots := 0, locals := 0 } : Room)) (fun aa_ U_ => aa_ = #[(.int i)] ∧ Z.Warmed39 U_.vm ∧ U_.heap = h0) (fun _ _ _ _ _ => True) (fun _ U_ o_ V_ => ∃ v_ L_, o_ = .returned v_ ∧ Q_own_pick Z i u0 u1 u2 u3 u4 u5 u6 u7 h0 n0 v_ V_.heap L_ ∧ FrameEnd U_ o_ V_ L_ ({ frames := 0, cells := 0, slots := 0, locals := 0 } : Room).cells ({ frames := 0, cells := 0, slots := 0, locals := 0 } : Room).slots) := by
  refine MetFree.of_bodySF (plainFor_of_name own_pn_own_pick) hisR ?_
  intro p e s m args below meth c s₁ Bd hml0 hP hK
  obtain ⟨rfl, hZ, hh⟩ := hP
  have hx := Bd.exec
  have hby := Bd.bytes
  have hml : c.maxLocals = 2 := hml0
  have hown : s.vm.findClass "com/example/interfold/interfold/slice/TokenSet141PinLaw" = some m.cls := findClass_of_methodNamed Bd.named
  have hnm := (name_of_methodNamed Bd.named Bd.method).1
  have X0 : Stand p l e ({ frames := 0, cells := 0, slots := 0, locals := 0 } : Room) s m #[(.int i)] below meth c s₁ [] 0 0 := Stand.of_body Bd
  have e0 : s₁.heap = h0 := by rw [← hh, Bd.state]; rfl
  have N0 := Fr.nil n0
  have K0 : Keep h0 h0 [] := Keep.refl _ _
  have r0 : GoTo p.tables e below s₁ (own_F_own_pick m i) s₁ (mkF m 0 #[.val (.int i), .unset] []) := fun tt_ kk_ => castTop (own_ef_own_pick m i) kk_
  have r1 : GoTo p.tables e below s₁ (own_F_own_pick m i) s₁ (mkF m 6 #[.val (.int i), .val (.int (i &&& (7 : Int32)))] [(.int (i &&& (7 : Int32)))]) := fun tt_ kk_ => r0 tt_ (by
      show Steps p.tables e below (s₁.setTop (mkF m 0 #[.val (.int i), .unset] [])) _
      refine XS.iloadN X0.here hx rfl (hb hby own_d_method_2_code_0) rfl ?_
      show Steps p.tables e below (s₁.setTop (mkF m 1 #[.val (.int i), .unset] [(.int i)])) _
      refine XS.bipush X0.here hx rfl (hb hby own_d_method_2_code_1) ?_
      show Steps p.tables e below (s₁.setTop (mkF m 3 #[.val (.int i), .unset] [(.int (7 : Int32)), (.int i)])) _
      refine XS.iand X0.here hx rfl (hb hby own_d_method_2_code_3) rfl ?_
      show Steps p.tables e below (s₁.setTop (mkF m 4 #[.val (.int i), .unset] [(.int (i &&& (7 : Int32)))])) _
      refine XS.istoreN X0.here hx rfl (hb hby own_d_method_2_code_4) rfl (l' := #[.val (.int i), .val (.int (i &&& (7 : Int32)))]) rfl ?_
      show Steps p.tables e below (s₁.setTop (mkF m 5 #[.val (.int i), .val (.int (i &&& (7 : Int32)))] [])) _
      refine XS.iloadN X0.here hx rfl (hb hby own_d_method_2_code_5) rfl ?_
      show Steps p.tables e below (s₁.setTop (mkF m 6 #[.val (.int i), .val (.int (i &&& (7 : Int32)))] [(.int (i &&& (7 : Int32)))])) _
      exact kk_)
  by_cases hc2 : (i &&& (7 : Int32)) = (0 : Int32)
  · obtain ⟨T3, X3, e3, st3⟩ := getS2 X0 hx hZ hown (host := "") (Or.inl (hw _ (List.mem_of_getElem? (i := 13) rfl))) Via.refl e0 (hp0.ext (O0.keep K0 all0).2) (g := (mkF m 9 #[.val (.int i), .val (.int (i &&& (7 : Int32)))] [])) rfl (hb hby own_d_method_2_code_9)
    obtain ⟨fs, hr, hrun, hended, hW, hsame⟩ := X3.leave (v := some (.ref u0)) (fun h => by rw [Bd.returns] at h; cases h)
    refine ⟨_, _, r1 _ ?_, hrun, hended, _, _, rfl, ?_, ⟨_, rfl⟩, hW, hsame.mono (by decide) (by decide)⟩
    · show Steps p.tables e below (s₁.setTop (mkF m 6 #[.val (.int i), .val (.int (i &&& (7 : Int32)))] [(.int (i &&& (7 : Int32)))])) _
      refine XS.ifNo X0.here hx rfl (hb hby own_d_method_2_code_6) rfl ((if0 _ _).trans (teq hc2).2) ?_
      show Steps p.tables e below (s₁.setTop (mkF m 9 #[.val (.int i), .val (.int (i &&& (7 : Int32)))] [])) _
      refine st3 _ ?_
      show Steps p.tables e below (T3.setTop (mkF m 12 #[.val (.int i), .val (.int (i &&& (7 : Int32)))] [(.ref u0)])) _
      exact retOut X3 hx (t := (.object "com/example/interfold/interfold/slice/Token$Kind")) Bd.returns rfl (Or.inr (Or.inr (Or.inr (Or.inr ⟨rfl, rfl, rfl⟩)))) (hb hby own_d_method_2_code_12) hr
    · show Q_own_pick Z i u0 u1 u2 u3 u4 u5 u6 u7 h0 n0 _ T3.heap _
      rw [e3]
      exact ⟨u0, rfl, N0, rfl⟩
  · have r4 : GoTo p.tables e below s₁ (own_F_own_pick m i) s₁ (mkF m 15 #[.val (.int i), .val (.int (i &&& (7 : Int32)))] [(.int (1 : Int32)), (.int (i &&& (7 : Int32)))]) := fun tt_ kk_ => r1 tt_ (by
        show Steps p.tables e below (s₁.setTop (mkF m 6 #[.val (.int i), .val (.int (i &&& (7 : Int32)))] [(.int (i &&& (7 : Int32)))])) _
        refine XS.ifYes X0.here hx rfl (pc0 := 6) (pc' := 13) rfl (hb hby own_d_method_2_code_6) rfl ((if0 _ _).trans (feq hc2).2) (by decide) (by decide) ?_
        show Steps p.tables e below (s₁.setTop (mkF m 13 #[.val (.int i), .val (.int (i &&& (7 : Int32)))] [])) _
        refine XS.iloadN X0.here hx rfl (hb hby own_d_method_2_code_13) rfl ?_
        show Steps p.tables e below (s₁.setTop (mkF m 14 #[.val (.int i), .val (.int (i &&& (7 : Int32)))] [(.int (i &&& (7 : Int32)))])) _
        refine XS.iconst X0.here hx rfl (hb hby own_d_method_2_code_14) ?_
        show Steps p.tables e below (s₁.setTop (mkF m 15 #[.val (.int i), .val (.int (i &&& (7 : Int32)))] [(.int (1 : Int32)), (.int (i &&& (7 : Int32)))])) _
        exact kk_)
    by_cases hc5 : (i &&& (7 : Int32)) = (1 : Int32)
    · obtain ⟨T6, X6, e6, st6⟩ := getS2 X0 hx hZ hown (host := "") (Or.inl (hw _ (List.mem_of_getElem? (i := 84) rfl))) Via.refl e0 (hp1.ext (O0.keep K0 all0).2) (g := (mkF m 18 #[.val (.int i), .val (.int (i &&& (7 : Int32)))] [])) rfl (hb hby own_d_method_2_code_18)
      obtain ⟨fs, hr, hrun, hended, hW, hsame⟩ := X6.leave (v := some (.ref u1)) (fun h => by rw [Bd.returns] at h; cases h)
      refine ⟨_, _, r4 _ ?_, hrun, hended, _, _, rfl, ?_, ⟨_, rfl⟩, hW, hsame.mono (by decide) (by decide)⟩
      · show Steps p.tables e below (s₁.setTop (mkF m 15 #[.val (.int i), .val (.int (i &&& (7 : Int32)))] [(.int (1 : Int32)), (.int (i &&& (7 : Int32)))])) _
        refine XS.icmpNo X0.here hx rfl (hb hby own_d_method_2_code_15) rfl (teq hc5).2 ?_
        show Steps p.tables e below (s₁.setTop (mkF m 18 #[.val (.int i), .val (.int (i &&& (7 : Int32)))] [])) _
        refine st6 _ ?_
        show Steps p.tables e below (T6.setTop (mkF m 21 #[.val (.int i), .val (.int (i &&& (7 : Int32)))] [(.ref u1)])) _
        exact retOut X6 hx (t := (.object "com/example/interfold/interfold/slice/Token$Kind")) Bd.returns rfl (Or.inr (Or.inr (Or.inr (Or.inr ⟨rfl, rfl, rfl⟩)))) (hb hby own_d_method_2_code_21) hr
      · show Q_own_pick Z i u0 u1 u2 u3 u4 u5 u6 u7 h0 n0 _ T6.heap _
        rw [e6]
        exact ⟨u1, rfl, N0, rfl⟩
    · have r7 : GoTo p.tables e below s₁ (own_F_own_pick m i) s₁ (mkF m 24 #[.val (.int i), .val (.int (i &&& (7 : Int32)))] [(.int (2 : Int32)), (.int (i &&& (7 : Int32)))]) := fun tt_ kk_ => r4 tt_ (by
          show Steps p.tables e below (s₁.setTop (mkF m 15 #[.val (.int i), .val (.int (i &&& (7 : Int32)))] [(.int (1 : Int32)), (.int (i &&& (7 : Int32)))])) _
          refine XS.icmpYes X0.here hx rfl (pc0 := 15) (pc' := 22) rfl (hb hby own_d_method_2_code_15) rfl (feq hc5).2 (by decide) (by decide) ?_
          show Steps p.tables e below (s₁.setTop (mkF m 22 #[.val (.int i), .val (.int (i &&& (7 : Int32)))] [])) _
          refine XS.iloadN X0.here hx rfl (hb hby own_d_method_2_code_22) rfl ?_
          show Steps p.tables e below (s₁.setTop (mkF m 23 #[.val (.int i), .val (.int (i &&& (7 : Int32)))] [(.int (i &&& (7 : Int32)))])) _
          refine XS.iconst X0.here hx rfl (hb hby own_d_method_2_code_23) ?_
          show Steps p.tables e below (s₁.setTop (mkF m 24 #[.val (.int i), .val (.int (i &&& (7 : Int32)))] [(.int (2 : Int32)), (.int (i &&& (7 : Int32)))])) _
          exact kk_)
      by_cases hc8 : (i &&& (7 : Int32)) = (2 : Int32)
      · obtain ⟨T9, X9, e9, st9⟩ := getS2 X0 hx hZ hown (host := "") (Or.inl (hw _ (List.mem_of_getElem? (i := 88) rfl))) Via.refl e0 (hp2.ext (O0.keep K0 all0).2) (g := (mkF m 27 #[.val (.int i), .val (.int (i &&& (7 : Int32)))] [])) rfl (hb hby own_d_method_2_code_27)
        obtain ⟨fs, hr, hrun, hended, hW, hsame⟩ := X9.leave (v := some (.ref u2)) (fun h => by rw [Bd.returns] at h; cases h)
        refine ⟨_, _, r7 _ ?_, hrun, hended, _, _, rfl, ?_, ⟨_, rfl⟩, hW, hsame.mono (by decide) (by decide)⟩
        · show Steps p.tables e below (s₁.setTop (mkF m 24 #[.val (.int i), .val (.int (i &&& (7 : Int32)))] [(.int (2 : Int32)), (.int (i &&& (7 : Int32)))])) _
          refine XS.icmpNo X0.here hx rfl (hb hby own_d_method_2_code_24) rfl (teq hc8).2 ?_
          show Steps p.tables e below (s₁.setTop (mkF m 27 #[.val (.int i), .val (.int (i &&& (7 : Int32)))] [])) _
          refine st9 _ ?_
          show Steps p.tables e below (T9.setTop (mkF m 30 #[.val (.int i), .val (.int (i &&& (7 : Int32)))] [(.ref u2)])) _
          exact retOut X9 hx (t := (.object "com/example/interfold/interfold/slice/Token$Kind")) Bd.returns rfl (Or.inr (Or.inr (Or.inr (Or.inr ⟨rfl, rfl, rfl⟩)))) (hb hby own_d_method_2_code_30) hr
        · show Q_own_pick Z i u0 u1 u2 u3 u4 u5 u6 u7 h0 n0 _ T9.heap _
          rw [e9]
          exact ⟨u2, rfl, N0, rfl⟩
      · have r10 : GoTo p.tables e below s₁ (own_F_own_pick m i) s₁ (mkF m 33 #[.val (.int i), .val (.int (i &&& (7 : Int32)))] [(.int (3 : Int32)), (.int (i &&& (7 : Int32)))]) := fun tt_ kk_ => r7 tt_ (by
            show Steps p.tables e below (s₁.setTop (mkF m 24 #[.val (.int i), .val (.int (i &&& (7 : Int32)))] [(.int (2 : Int32)), (.int (i &&& (7 : Int32)))])) _
            refine XS.icmpYes X0.here hx rfl (pc0 := 24) (pc' := 31) rfl (hb hby own_d_method_2_code_24) rfl (feq hc8).2 (by decide) (by decide) ?_
            show Steps p.tables e below (s₁.setTop (mkF m 31 #[.val (.int i), .val (.int (i &&& (7 : Int32)))] [])) _
            refine XS.iloadN X0.here hx rfl (hb hby own_d_method_2_code_31) rfl ?_
            show Steps p.tables e below (s₁.setTop (mkF m 32 #[.val (.int i), .val (.int (i &&& (7 : Int32)))] [(.int (i &&& (7 : Int32)))])) _
            refine XS.iconst X0.here hx rfl (hb hby own_d_method_2_code_32) ?_
            show Steps p.tables e below (s₁.setTop (mkF m 33 #[.val (.int i), .val (.int (i &&& (7 : Int32)))] [(.int (3 : Int32)), (.int (i &&& (7 : Int32)))])) _
            exact kk_)
        by_cases hc11 : (i &&& (7 : Int32)) = (3 : Int32)
        · obtain ⟨T12, X12, e12, st12⟩ := getS2 X0 hx hZ hown (host := "") (Or.inl (hw _ (List.mem_of_getElem? (i := 92) rfl))) Via.refl e0 (hp3.ext (O0.keep K0 all0).2) (g := (mkF m 36 #[.val (.int i), .val (.int (i &&& (7 : Int32)))] [])) rfl (hb hby own_d_method_2_code_36)
          obtain ⟨fs, hr, hrun, hended, hW, hsame⟩ := X12.leave (v := some (.ref u3)) (fun h => by rw [Bd.returns] at h; cases h)
          refine ⟨_, _, r10 _ ?_, hrun, hended, _, _, rfl, ?_, ⟨_, rfl⟩, hW, hsame.mono (by decide) (by decide)⟩
          · show Steps p.tables e below (s₁.setTop (mkF m 33 #[.val (.int i), .val (.int (i &&& (7 : Int32)))] [(.int (3 : Int32)), (.int (i &&& (7 : Int32)))])) _
            refine XS.icmpNo X0.here hx rfl (hb hby own_d_method_2_code_33) rfl (teq hc11).2 ?_
            show Steps p.tables e below (s₁.setTop (mkF m 36 #[.val (.int i), .val (.int (i &&& (7 : Int32)))] [])) _
            refine st12 _ ?_
            show Steps p.tables e below (T12.setTop (mkF m 39 #[.val (.int i), .val (.int (i &&& (7 : Int32)))] [(.ref u3)])) _
            exact retOut X12 hx (t := (.object "com/example/interfold/interfold/slice/Token$Kind")) Bd.returns rfl (Or.inr (Or.inr (Or.inr (Or.inr ⟨rfl, rfl, rfl⟩)))) (hb hby own_d_method_2_code_39) hr
          · show Q_own_pick Z i u0 u1 u2 u3 u4 u5 u6 u7 h0 n0 _ T12.heap _
            rw [e12]
            exact ⟨u3, rfl, N0, rfl⟩
        · have r13 : GoTo p.tables e below s₁ (own_F_own_pick m i) s₁ (mkF m 42 #[.val (.int i), .val (.int (i &&& (7 : Int32)))] [(.int (4 : Int32)), (.int (i &&& (7 : Int32)))]) := fun tt_ kk_ => r10 tt_ (by
              show Steps p.tables e below (s₁.setTop (mkF m 33 #[.val (.int i), .val (.int (i &&& (7 : Int32)))] [(.int (3 : Int32)), (.int (i &&& (7 : Int32)))])) _
              refine XS.icmpYes X0.here hx rfl (pc0 := 33) (pc' := 40) rfl (hb hby own_d_method_2_code_33) rfl (feq hc11).2 (by decide) (by decide) ?_
              show Steps p.tables e below (s₁.setTop (mkF m 40 #[.val (.int i), .val (.int (i &&& (7 : Int32)))] [])) _
              refine XS.iloadN X0.here hx rfl (hb hby own_d_method_2_code_40) rfl ?_
              show Steps p.tables e below (s₁.setTop (mkF m 41 #[.val (.int i), .val (.int (i &&& (7 : Int32)))] [(.int (i &&& (7 : Int32)))])) _
              refine XS.iconst X0.here hx rfl (hb hby own_d_method_2_code_41) ?_
              show Steps p.tables e below (s₁.setTop (mkF m 42 #[.val (.int i), .val (.int (i &&& (7 : Int32)))] [(.int (4 : Int32)), (.int (i &&& (7 : Int32)))])) _
              exact kk_)
          by_cases hc14 : (i &&& (7 : Int32)) = (4 : Int32)
          · obtain ⟨T15, X15, e15, st15⟩ := getS2 X0 hx hZ hown (host := "") (Or.inl (hw _ (List.mem_of_getElem? (i := 80) rfl))) Via.refl e0 (hp4.ext (O0.keep K0 all0).2) (g := (mkF m 45 #[.val (.int i), .val (.int (i &&& (7 : Int32)))] [])) rfl (hb hby own_d_method_2_code_45)
            obtain ⟨fs, hr, hrun, hended, hW, hsame⟩ := X15.leave (v := some (.ref u4)) (fun h => by rw [Bd.returns] at h; cases h)
            refine ⟨_, _, r13 _ ?_, hrun, hended, _, _, rfl, ?_, ⟨_, rfl⟩, hW, hsame.mono (by decide) (by decide)⟩
            · show Steps p.tables e below (s₁.setTop (mkF m 42 #[.val (.int i), .val (.int (i &&& (7 : Int32)))] [(.int (4 : Int32)), (.int (i &&& (7 : Int32)))])) _
              refine XS.icmpNo X0.here hx rfl (hb hby own_d_method_2_code_42) rfl (teq hc14).2 ?_
              show Steps p.tables e below (s₁.setTop (mkF m 45 #[.val (.int i), .val (.int (i &&& (7 : Int32)))] [])) _
              refine st15 _ ?_
              show Steps p.tables e below (T15.setTop (mkF m 48 #[.val (.int i), .val (.int (i &&& (7 : Int32)))] [(.ref u4)])) _
              exact retOut X15 hx (t := (.object "com/example/interfold/interfold/slice/Token$Kind")) Bd.returns rfl (Or.inr (Or.inr (Or.inr (Or.inr ⟨rfl, rfl, rfl⟩)))) (hb hby own_d_method_2_code_48) hr
            · show Q_own_pick Z i u0 u1 u2 u3 u4 u5 u6 u7 h0 n0 _ T15.heap _
              rw [e15]
              exact ⟨u4, rfl, N0, rfl⟩
          · have r16 : GoTo p.tables e below s₁ (own_F_own_pick m i) s₁ (mkF m 51 #[.val (.int i), .val (.int (i &&& (7 : Int32)))] [(.int (5 : Int32)), (.int (i &&& (7 : Int32)))]) := fun tt_ kk_ => r13 tt_ (by
                show Steps p.tables e below (s₁.setTop (mkF m 42 #[.val (.int i), .val (.int (i &&& (7 : Int32)))] [(.int (4 : Int32)), (.int (i &&& (7 : Int32)))])) _
                refine XS.icmpYes X0.here hx rfl (pc0 := 42) (pc' := 49) rfl (hb hby own_d_method_2_code_42) rfl (feq hc14).2 (by decide) (by decide) ?_
                show Steps p.tables e below (s₁.setTop (mkF m 49 #[.val (.int i), .val (.int (i &&& (7 : Int32)))] [])) _
                refine XS.iloadN X0.here hx rfl (hb hby own_d_method_2_code_49) rfl ?_
                show Steps p.tables e below (s₁.setTop (mkF m 50 #[.val (.int i), .val (.int (i &&& (7 : Int32)))] [(.int (i &&& (7 : Int32)))])) _
                refine XS.iconst X0.here hx rfl (hb hby own_d_method_2_code_50) ?_
                show Steps p.tables e below (s₁.setTop (mkF m 51 #[.val (.int i), .val (.int (i &&& (7 : Int32)))] [(.int (5 : Int32)), (.int (i &&& (7 : Int32)))])) _
                exact kk_)
            by_cases hc17 : (i &&& (7 : Int32)) = (5 : Int32)
            · obtain ⟨T18, X18, e18, st18⟩ := getS2 X0 hx hZ hown (host := "") (Or.inl (hw _ (List.mem_of_getElem? (i := 82) rfl))) Via.refl e0 (hp5.ext (O0.keep K0 all0).2) (g := (mkF m 54 #[.val (.int i), .val (.int (i &&& (7 : Int32)))] [])) rfl (hb hby own_d_method_2_code_54)
              obtain ⟨fs, hr, hrun, hended, hW, hsame⟩ := X18.leave (v := some (.ref u5)) (fun h => by rw [Bd.returns] at h; cases h)
              refine ⟨_, _, r16 _ ?_, hrun, hended, _, _, rfl, ?_, ⟨_, rfl⟩, hW, hsame.mono (by decide) (by decide)⟩
              · show Steps p.tables e below (s₁.setTop (mkF m 51 #[.val (.int i), .val (.int (i &&& (7 : Int32)))] [(.int (5 : Int32)), (.int (i &&& (7 : Int32)))])) _
                refine XS.icmpNo X0.here hx rfl (hb hby own_d_method_2_code_51) rfl (teq hc17).2 ?_
                show Steps p.tables e below (s₁.setTop (mkF m 54 #[.val (.int i), .val (.int (i &&& (7 : Int32)))] [])) _
                refine st18 _ ?_
                show Steps p.tables e below (T18.setTop (mkF m 57 #[.val (.int i), .val (.int (i &&& (7 : Int32)))] [(.ref u5)])) _
                exact retOut X18 hx (t := (.object "com/example/interfold/interfold/slice/Token$Kind")) Bd.returns rfl (Or.inr (Or.inr (Or.inr (Or.inr ⟨rfl, rfl, rfl⟩)))) (hb hby own_d_method_2_code_57) hr
              · show Q_own_pick Z i u0 u1 u2 u3 u4 u5 u6 u7 h0 n0 _ T18.heap _
                rw [e18]
                exact ⟨u5, rfl, N0, rfl⟩
            · have r19 : GoTo p.tables e below s₁ (own_F_own_pick m i) s₁ (mkF m 61 #[.val (.int i), .val (.int (i &&& (7 : Int32)))] [(.int (6 : Int32)), (.int (i &&& (7 : Int32)))]) := fun tt_ kk_ => r16 tt_ (by
                  show Steps p.tables e below (s₁.setTop (mkF m 51 #[.val (.int i), .val (.int (i &&& (7 : Int32)))] [(.int (5 : Int32)), (.int (i &&& (7 : Int32)))])) _
                  refine XS.icmpYes X0.here hx rfl (pc0 := 51) (pc' := 58) rfl (hb hby own_d_method_2_code_51) rfl (feq hc17).2 (by decide) (by decide) ?_
                  show Steps p.tables e below (s₁.setTop (mkF m 58 #[.val (.int i), .val (.int (i &&& (7 : Int32)))] [])) _
                  refine XS.iloadN X0.here hx rfl (hb hby own_d_method_2_code_58) rfl ?_
                  show Steps p.tables e below (s₁.setTop (mkF m 59 #[.val (.int i), .val (.int (i &&& (7 : Int32)))] [(.int (i &&& (7 : Int32)))])) _
                  refine XS.bipush X0.here hx rfl (hb hby own_d_method_2_code_59) ?_
                  show Steps p.tables e below (s₁.setTop (mkF m 61 #[.val (.int i), .val (.int (i &&& (7 : Int32)))] [(.int (6 : Int32)), (.int (i &&& (7 : Int32)))])) _
                  exact kk_)
              by_cases hc20 : (i &&& (7 : Int32)) = (6 : Int32)
              · obtain ⟨T21, X21, e21, st21⟩ := getS2 X0 hx hZ hown (host := "") (Or.inl (hw _ (List.mem_of_getElem? (i := 90) rfl))) Via.refl e0 (hp6.ext (O0.keep K0 all0).2) (g := (mkF m 64 #[.val (.int i), .val (.int (i &&& (7 : Int32)))] [])) rfl (hb hby own_d_method_2_code_64)
                obtain ⟨fs, hr, hrun, hended, hW, hsame⟩ := X21.leave (v := some (.ref u6)) (fun h => by rw [Bd.returns] at h; cases h)
                refine ⟨_, _, r19 _ ?_, hrun, hended, _, _, rfl, ?_, ⟨_, rfl⟩, hW, hsame.mono (by decide) (by decide)⟩
                · show Steps p.tables e below (s₁.setTop (mkF m 61 #[.val (.int i), .val (.int (i &&& (7 : Int32)))] [(.int (6 : Int32)), (.int (i &&& (7 : Int32)))])) _
                  refine XS.icmpNo X0.here hx rfl (hb hby own_d_method_2_code_61) rfl (teq hc20).2 ?_
                  show Steps p.tables e below (s₁.setTop (mkF m 64 #[.val (.int i), .val (.int (i &&& (7 : Int32)))] [])) _
                  refine st21 _ ?_
                  show Steps p.tables e below (T21.setTop (mkF m 67 #[.val (.int i), .val (.int (i &&& (7 : Int32)))] [(.ref u6)])) _
                  exact retOut X21 hx (t := (.object "com/example/interfold/interfold/slice/Token$Kind")) Bd.returns rfl (Or.inr (Or.inr (Or.inr (Or.inr ⟨rfl, rfl, rfl⟩)))) (hb hby own_d_method_2_code_67) hr
                · show Q_own_pick Z i u0 u1 u2 u3 u4 u5 u6 u7 h0 n0 _ T21.heap _
                  rw [e21]
                  exact ⟨u6, rfl, N0, rfl⟩
              · obtain ⟨T22, X22, e22, st22⟩ := getS2 X0 hx hZ hown (host := "") (Or.inl (hw _ (List.mem_of_getElem? (i := 86) rfl))) Via.refl e0 (hp7.ext (O0.keep K0 all0).2) (g := (mkF m 68 #[.val (.int i), .val (.int (i &&& (7 : Int32)))] [])) rfl (hb hby own_d_method_2_code_68)
                obtain ⟨fs, hr, hrun, hended, hW, hsame⟩ := X22.leave (v := some (.ref u7)) (fun h => by rw [Bd.returns] at h; cases h)
                refine ⟨_, _, r19 _ ?_, hrun, hended, _, _, rfl, ?_, ⟨_, rfl⟩, hW, hsame.mono (by decide) (by decide)⟩
                · show Steps p.tables e below (s₁.setTop (mkF m 61 #[.val (.int i), .val (.int (i &&& (7 : Int32)))] [(.int (6 : Int32)), (.int (i &&& (7 : Int32)))])) _
                  refine XS.icmpYes X0.here hx rfl (pc0 := 61) (pc' := 68) rfl (hb hby own_d_method_2_code_61) rfl (feq hc20).2 (by decide) (by decide) ?_
                  show Steps p.tables e below (s₁.setTop (mkF m 68 #[.val (.int i), .val (.int (i &&& (7 : Int32)))] [])) _
                  refine st22 _ ?_
                  show Steps p.tables e below (T22.setTop (mkF m 71 #[.val (.int i), .val (.int (i &&& (7 : Int32)))] [(.ref u7)])) _
                  exact retOut X22 hx (t := (.object "com/example/interfold/interfold/slice/Token$Kind")) Bd.returns rfl (Or.inr (Or.inr (Or.inr (Or.inr ⟨rfl, rfl, rfl⟩)))) (hb hby own_d_method_2_code_71) hr
                · show Q_own_pick Z i u0 u1 u2 u3 u4 u5 u6 u7 h0 n0 _ T22.heap _
                  rw [e22]
                  exact ⟨u7, rfl, N0, rfl⟩
theorem own_pn_own_tin : plainName "com/example/interfold/interfold/slice/Token" = true := by first | (simp [plainName, overriddenIn]; done) | decide +kernel
theorem own_ef_own_tin (m : MethodId) (a : Addr) : entryFrame m #[(.ref a)] 1 = mkF m 0 #[.val (.ref a)] [] := by first | (simp [entryFrame, mkF, argsToLocals, own_cI, own_cJ, own_cR, own_cN]; done) | rfl
abbrev own_F_own_tin (m : MethodId) (a : Addr) : JFrame := entryFrame m #[(.ref a)] 1
def Q_own_tin (Z : State) (a : Addr) (h0 : Heap) (n0 : Nat) (v : Option Value) (h : Heap) (L : List Loc) : Prop := v = none ∧ Fr n0 L ∧ h = h0
set_option maxRecDepth 65536 in
set_option maxHeartbeats 40000000 in
theorem own_tin (l : Launch) (Z : State) (a0 : Array Value) (hw : ∀ d ∈ tables_1, d.before a0 Z = true) (ws : List Jvm.Cond) (a : Addr) (h0 : Heap) (n0 : Nat) (O0 : Old Z n0 h0) :
    MetFree l (⟨"com/example/interfold/interfold/slice/Token", "<init>", "()V"⟩ : MethodName) (head1 (Jvm.Cond.code (⟨"com/example/interfold/interfold/slice/Token", "<init>", "()V"⟩ : MethodName) prog_184_method_1_code 1 none :: ws) ({ frames := 1, cells := 0, slots := 0, locals := 12 } : Room)) (fun aa_ U_ => aa_ = #[(.ref a)] ∧ Z.Warmed39 U_.vm ∧ U_.heap = h0) (fun _ _ _ _ _ => True) (fun _ U_ o_ V_ => ∃ v_ L_, o_ = .returned v_ ∧ Q_own_tin Z a h0 n0 v_ V_.heap L_ ∧ FrameEnd U_ o_ V_ L_ ({ frames := 1, cells := 0, slots := 0, locals := 12 } : Room).cells ({ frames := 1, cells := 0, slots := 0, locals := 12 } : Room).slots) := by
  refine MetFree.of_bodySF (plainFor_of_name own_pn_own_tin) hisR ?_
  intro p e s m args below meth c s₁ Bd hml0 hP hK
  obtain ⟨rfl, hZ, hh⟩ := hP
  have hx := Bd.exec
  have hby := Bd.bytes
  have hml : c.maxLocals = 1 := hml0
  have hown : s.vm.findClass "com/example/interfold/interfold/slice/Token" = some m.cls := findClass_of_methodNamed Bd.named
  have hnm := (name_of_methodNamed Bd.named Bd.method).1
  have X0 : Stand p l e ({ frames := 1, cells := 0, slots := 0, locals := 12 } : Room) s m #[(.ref a)] below meth c s₁ [] 0 0 := Stand.of_body Bd
  have e0 : s₁.heap = h0 := by rw [← hh, Bd.state]; rfl
  have N0 := Fr.nil n0
  have K0 : Keep h0 h0 [] := Keep.refl _ _
  have r0 : GoTo p.tables e below s₁ (own_F_own_tin m a) s₁ (mkF m 0 #[.val (.ref a)] []) := fun tt_ kk_ => castTop (own_ef_own_tin m a) kk_
  obtain ⟨T1, X1, e1, st1⟩ := initO X0 hx hZ hown (hw _ (List.mem_of_getElem? (i := 6) rfl)) (hw _ (List.mem_of_getElem? (i := 7) rfl)) (hw _ (List.mem_of_getElem? (i := 8) rfl)) e0 (g := (mkF m 1 #[.val (.ref a)] [(.ref a)])) rfl (by rw [hml]; rfl) rfl (hb hby own_d_prog_184_method_1_code_1) (by decide) (W := 0) (by show 2 * 0 + _ ≤ _; exact Nat.le_of_eq rfl) (by decide)
  obtain ⟨fs, hr, hrun, hended, hW, hsame⟩ := X1.leave (v := none) (fun _ => rfl)
  refine ⟨_, _, r0 _ ?_, hrun, hended, _, _, rfl, ?_, ⟨_, rfl⟩, hW, hsame.mono (by decide) (by decide)⟩
  · show Steps p.tables e below (s₁.setTop (mkF m 0 #[.val (.ref a)] [])) _
    refine XS.aloadN X0.here hx rfl (hb hby own_d_prog_184_method_1_code_0) rfl rfl ?_
    show Steps p.tables e below (s₁.setTop (mkF m 1 #[.val (.ref a)] [(.ref a)])) _
    refine st1 _ ?_
    show Steps p.tables e below (T1.setTop (mkF m 4 #[.val (.ref a)] [])) _
    exact X1.returnOut hx Bd.returns (hb hby own_d_prog_184_method_1_code_4) hr
  · show Q_own_tin Z a h0 n0 _ T1.heap _
    rw [e1]
    exact ⟨rfl, N0, rfl⟩
theorem own_pn_own_draw : plainName "com/example/interfold/interfold/slice/TokenSet141PinLaw" = true := by first | (simp [plainName, overriddenIn]; done) | decide +kernel
theorem own_ef_own_draw (m : MethodId) (i : Int32) (f : Int32) : entryFrame m #[(.int i), (.int f)] 3 = mkF m 0 #[.val (.int i), .val (.int f), .unset] [] := by first | (simp [entryFrame, mkF, argsToLocals, own_cI, own_cJ, own_cR, own_cN]; done) | rfl
abbrev own_F_own_draw (m : MethodId) (i : Int32) (f : Int32) : JFrame := entryFrame m #[(.int i), (.int f)] 3
def Q_own_draw (Z : State) (i : Int32) (f : Int32) (G1 : Int32) (h0 : Heap) (n0 : Nat) (v : Option Value) (h : Heap) (L : List Loc) : Prop := ∃ (sv : Value), v = some sv ∧ Fr n0 L ∧ Keep h0 h [] ∧ (sv.isRef = true)
set_option maxRecDepth 65536 in
set_option maxHeartbeats 40000000 in
theorem own_draw (l : Launch) (Z : State) (a0 : Array Value) (hw : ∀ d ∈ tables_1, d.before a0 Z = true) (ws : List Jvm.Cond) (i : Int32) (f : Int32) (G1 : Int32) (h0 : Heap) (n0 : Nat) (O0 : Old Z n0 h0) (hp0 : Sta Z Z.heap "java/lang/String" "COMPACT_STRINGS" "Z" (.int G1)) (hG1 : ¬ G1 = (0 : Int32)) :
    MetFree l (⟨"com/example/interfold/interfold/slice/TokenSet141PinLaw", "draw", "(II)Ljava/lang/String;"⟩ : MethodName) (head1 (Jvm.Cond.code (⟨"com/example/interfold/interfold/slice/TokenSet141PinLaw", "draw", "(II)Ljava/lang/String;"⟩ : MethodName) method_3_code 3 (some (.object "java/lang/String")) :: ws) ({ frames := 4, cells := 3, slots := 8, locals := 66 } : Room)) (fun aa_ U_ => aa_ = #[(.int i), (.int f)] ∧ Z.Warmed39 U_.vm ∧ U_.heap = h0) (fun _ _ _ _ _ => True) (fun _ U_ o_ V_ => ∃ v_ L_, o_ = .returned v_ ∧ Q_own_draw Z i f G1 h0 n0 v_ V_.heap L_ ∧ FrameEnd U_ o_ V_ L_ ({ frames := 4, cells := 3, slots := 8, locals := 66 } : Room).cells ({ frames := 4, cells := 3, slots := 8, locals := 66 } : Room).slots) := by
  refine MetFree.of_bodySF (plainFor_of_name own_pn_own_draw) hisR ?_
  intro p e s m args below meth c s₁ Bd hml0 hP hK
  obtain ⟨rfl, hZ, hh⟩ := hP
  have hx := Bd.exec
  have hby := Bd.bytes
  have hml : c.maxLocals = 3 := hml0
  have hown : s.vm.findClass "com/example/interfold/interfold/slice/TokenSet141PinLaw" = some m.cls := findClass_of_methodNamed Bd.named
  have hnm := (name_of_methodNamed Bd.named Bd.method).1
  have X0 : Stand p l e ({ frames := 4, cells := 3, slots := 8, locals := 66 } : Room) s m #[(.int i), (.int f)] below meth c s₁ [] 0 0 := Stand.of_body Bd
  have e0 : s₁.heap = h0 := by rw [← hh, Bd.state]; rfl
  have N0 := Fr.nil n0
  have K0 : Keep h0 h0 [] := Keep.refl _ _
  have r0 : GoTo p.tables e below s₁ (own_F_own_draw m i f) s₁ (mkF m 0 #[.val (.int i), .val (.int f), .unset] []) := fun tt_ kk_ => castTop (own_ef_own_draw m i f) kk_
  have r1 : GoTo p.tables e below s₁ (own_F_own_draw m i f) s₁ (mkF m 1 #[.val (.int i), .val (.int f), .unset] [(.int f)]) := fun tt_ kk_ => r0 tt_ (by
      show Steps p.tables e below (s₁.setTop (mkF m 0 #[.val (.int i), .val (.int f), .unset] [])) _
      refine XS.iloadN X0.here hx rfl (hb hby own_d_method_3_code_0) rfl ?_
      show Steps p.tables e below (s₁.setTop (mkF m 1 #[.val (.int i), .val (.int f), .unset] [(.int f)])) _
      exact kk_)
  by_cases hc2 : f = (0 : Int32)
  · obtain ⟨T3, h3, k3, X3, e3, E3, A3, st3⟩ := newP X0 hx hZ (hw _ (List.mem_of_getElem? (i := 19) rfl)) e0 (g := (mkF m 7 #[.val (.int i), .val (.int f), .unset] [(.int (2 : Int32))])) rfl (hb hby own_d_method_3_code_7) rfl (by decide) (cap := 2) (by decide) (by decide) (by decide) (by decide)
    obtain ⟨b3, gg3⟩ : ∃ z, z = h0.size := ⟨_, rfl⟩
    rw [← gg3] at A3 st3
    have g4 : n0 ≤ b3 := Nat.le_trans (Nat.le_trans (own_le O0) K0.1) (Nat.le_of_eq gg3.symm)
    have b5 : h0.size ≤ b3 := Nat.le_trans K0.1 (Nat.le_of_eq gg3.symm)
    have K6 : Keep h0 h3 [] := K0.ext E3
    have V3 : Arv Z h3 b3 k3 .char (2 : Int32) [(.int (0 : Int32)), (.int (0 : Int32))] (.int (0 : Int32)) := (Arv.new A3 (by decide)).pad (pad_rep [] (.int (0 : Int32)) 2)
    have r7 : GoTo p.tables e below s₁ (own_F_own_draw m i f) T3 (mkF m 18 #[.val (.int i), .val (.int f), .val (.ref b3)] [(.int ((i &&& (255 : Int32)).toUInt32.toUInt16.toUInt32.toInt32)), (.int (0 : Int32)), (.ref b3)]) := fun tt_ kk_ => r1 tt_ (by
        show Steps p.tables e below (s₁.setTop (mkF m 1 #[.val (.int i), .val (.int f), .unset] [(.int f)])) _
        refine XS.ifYes X0.here hx rfl (pc0 := 1) (pc' := 6) rfl (hb hby own_d_method_3_code_1) rfl ((if0 _ _).trans (teq hc2).1) (by decide) (by decide) ?_
        show Steps p.tables e below (s₁.setTop (mkF m 6 #[.val (.int i), .val (.int f), .unset] [])) _
        refine XS.iconst X0.here hx rfl (hb hby own_d_method_3_code_6) ?_
        show Steps p.tables e below (s₁.setTop (mkF m 7 #[.val (.int i), .val (.int f), .unset] [(.int (2 : Int32))])) _
        refine st3 _ ?_
        show Steps p.tables e below (T3.setTop (mkF m 9 #[.val (.int i), .val (.int f), .unset] [(.ref b3)])) _
        refine XS.astoreN X3.here hx rfl (hb hby own_d_method_3_code_9) rfl rfl (l' := #[.val (.int i), .val (.int f), .val (.ref b3)]) rfl ?_
        show Steps p.tables e below (T3.setTop (mkF m 10 #[.val (.int i), .val (.int f), .val (.ref b3)] [])) _
        refine XS.aloadN X3.here hx rfl (hb hby own_d_method_3_code_10) rfl rfl ?_
        show Steps p.tables e below (T3.setTop (mkF m 11 #[.val (.int i), .val (.int f), .val (.ref b3)] [(.ref b3)])) _
        refine XS.iconst X3.here hx rfl (hb hby own_d_method_3_code_11) ?_
        show Steps p.tables e below (T3.setTop (mkF m 12 #[.val (.int i), .val (.int f), .val (.ref b3)] [(.int (0 : Int32)), (.ref b3)])) _
        refine XS.iloadN X3.here hx rfl (hb hby own_d_method_3_code_12) rfl ?_
        show Steps p.tables e below (T3.setTop (mkF m 13 #[.val (.int i), .val (.int f), .val (.ref b3)] [(.int i), (.int (0 : Int32)), (.ref b3)])) _
        refine XS.sipush X3.here hx rfl (hb hby own_d_method_3_code_13) ?_
        show Steps p.tables e below (T3.setTop (mkF m 16 #[.val (.int i), .val (.int f), .val (.ref b3)] [(.int (255 : Int32)), (.int i), (.int (0 : Int32)), (.ref b3)])) _
        refine XS.iand X3.here hx rfl (hb hby own_d_method_3_code_16) rfl ?_
        show Steps p.tables e below (T3.setTop (mkF m 17 #[.val (.int i), .val (.int f), .val (.ref b3)] [(.int (i &&& (255 : Int32))), (.int (0 : Int32)), (.ref b3)])) _
        refine XS.i2c X3.here hx rfl (hb hby own_d_method_3_code_17) rfl ?_
        show Steps p.tables e below (T3.setTop (mkF m 18 #[.val (.int i), .val (.int f), .val (.ref b3)] [(.int ((i &&& (255 : Int32)).toUInt32.toUInt16.toUInt32.toInt32)), (.int (0 : Int32)), (.ref b3)])) _
        exact kk_)
    obtain ⟨c0, h_c0⟩ : ∃ z : Int32, z = ((i &&& (255 : Int32)).toUInt32.toUInt16.toUInt32.toInt32) := ⟨_, rfl⟩
    have r8 : GoTo p.tables e below s₁ (own_F_own_draw m i f) T3 (mkF m 18 #[.val (.int i), .val (.int f), .val (.ref b3)] [(.int c0), (.int (0 : Int32)), (.ref b3)]) := by rw [h_c0]; exact r7
    have hr_c0 := own_chr i h_c0
    obtain ⟨cl9, Ar9, q9, S9, NN9, H9, G9⟩ := id V3
    have hin9 : ¬ ((0 : Int32) < 0 ∨ cl9.slots.size ≤ ((0 : Int32)).toNatClampNeg) := inb_of S9 ⟨by decide, by decide⟩
    obtain ⟨T10, h10, X10, e10, W10, st10⟩ := stC X3 hx hZ e3 Ar9 (j := (0 : Int32)) hin9 (g := (mkF m 18 #[.val (.int i), .val (.int f), .val (.ref b3)] [(.int c0), (.int (0 : Int32)), (.ref b3)])) rfl rfl (hb hby own_d_method_3_code_18)
    have K11 : Keep h0 h10 [] := K6.wr W10 (Or.inr b5)
    have V10 : Arv Z h10 b3 k3 .char (2 : Int32) [(.int (nar .char c0)), (.int (0 : Int32))] (.int (0 : Int32)) := Arv.set Ar9 q9 S9 NN9 H9 G9 (fits_nar_char _) W10 0 rfl (Nat.le_of_ble_eq_true rfl)
    have Vs10 : Arv Z h10 b3 k3 .char (2 : Int32) [(.int c0), (.int (0 : Int32))] (.int (0 : Int32)) := by rw [show (nar .char c0) = c0 from hr_c0.2] at V10; exact V10
    have N10 := Fr.snoc X10 N0 g4
    have r12 : GoTo p.tables e below s₁ (own_F_own_draw m i f) T10 (mkF m 30 #[.val (.int i), .val (.int f), .val (.ref b3)] [(.int ((((i.toUInt32 >>> ((8 : Int32) &&& 31).toUInt32).toInt32) &&& (255 : Int32)).toUInt32.toUInt16.toUInt32.toInt32)), (.int (1 : Int32)), (.ref b3)]) := fun tt_ kk_ => r8 tt_ (by
        show Steps p.tables e below (T3.setTop (mkF m 18 #[.val (.int i), .val (.int f), .val (.ref b3)] [(.int c0), (.int (0 : Int32)), (.ref b3)])) _
        refine st10 _ ?_
        show Steps p.tables e below (T10.setTop (mkF m 19 #[.val (.int i), .val (.int f), .val (.ref b3)] [])) _
        refine XS.aloadN X10.here hx rfl (hb hby own_d_method_3_code_19) rfl rfl ?_
        show Steps p.tables e below (T10.setTop (mkF m 20 #[.val (.int i), .val (.int f), .val (.ref b3)] [(.ref b3)])) _
        refine XS.iconst X10.here hx rfl (hb hby own_d_method_3_code_20) ?_
        show Steps p.tables e below (T10.setTop (mkF m 21 #[.val (.int i), .val (.int f), .val (.ref b3)] [(.int (1 : Int32)), (.ref b3)])) _
        refine XS.iloadN X10.here hx rfl (hb hby own_d_method_3_code_21) rfl ?_
        show Steps p.tables e below (T10.setTop (mkF m 22 #[.val (.int i), .val (.int f), .val (.ref b3)] [(.int i), (.int (1 : Int32)), (.ref b3)])) _
        refine XS.bipush X10.here hx rfl (hb hby own_d_method_3_code_22) ?_
        show Steps p.tables e below (T10.setTop (mkF m 24 #[.val (.int i), .val (.int f), .val (.ref b3)] [(.int (8 : Int32)), (.int i), (.int (1 : Int32)), (.ref b3)])) _
        refine XS.iushr X10.here hx rfl (hb hby own_d_method_3_code_24) rfl ?_
        show Steps p.tables e below (T10.setTop (mkF m 25 #[.val (.int i), .val (.int f), .val (.ref b3)] [(.int ((i.toUInt32 >>> ((8 : Int32) &&& 31).toUInt32).toInt32)), (.int (1 : Int32)), (.ref b3)])) _
        refine XS.sipush X10.here hx rfl (hb hby own_d_method_3_code_25) ?_
        show Steps p.tables e below (T10.setTop (mkF m 28 #[.val (.int i), .val (.int f), .val (.ref b3)] [(.int (255 : Int32)), (.int ((i.toUInt32 >>> ((8 : Int32) &&& 31).toUInt32).toInt32)), (.int (1 : Int32)), (.ref b3)])) _
        refine XS.iand X10.here hx rfl (hb hby own_d_method_3_code_28) rfl ?_
        show Steps p.tables e below (T10.setTop (mkF m 29 #[.val (.int i), .val (.int f), .val (.ref b3)] [(.int (((i.toUInt32 >>> ((8 : Int32) &&& 31).toUInt32).toInt32) &&& (255 : Int32))), (.int (1 : Int32)), (.ref b3)])) _
        refine XS.i2c X10.here hx rfl (hb hby own_d_method_3_code_29) rfl ?_
        show Steps p.tables e below (T10.setTop (mkF m 30 #[.val (.int i), .val (.int f), .val (.ref b3)] [(.int ((((i.toUInt32 >>> ((8 : Int32) &&& 31).toUInt32).toInt32) &&& (255 : Int32)).toUInt32.toUInt16.toUInt32.toInt32)), (.int (1 : Int32)), (.ref b3)])) _
        exact kk_)
    obtain ⟨c1, h_c1⟩ : ∃ z : Int32, z = ((((i.toUInt32 >>> ((8 : Int32) &&& 31).toUInt32).toInt32) &&& (255 : Int32)).toUInt32.toUInt16.toUInt32.toInt32) := ⟨_, rfl⟩
    have r13 : GoTo p.tables e below s₁ (own_F_own_draw m i f) T10 (mkF m 30 #[.val (.int i), .val (.int f), .val (.ref b3)] [(.int c1), (.int (1 : Int32)), (.ref b3)]) := by rw [h_c1]; exact r12
    have hr_c1 := own_chr ((i.toUInt32 >>> ((8 : Int32) &&& 31).toUInt32).toInt32) h_c1
    obtain ⟨cl14, Ar14, q14, S14, NN14, H14, G14⟩ := id Vs10
    have hin14 : ¬ ((1 : Int32) < 0 ∨ cl14.slots.size ≤ ((1 : Int32)).toNatClampNeg) := inb_of S14 ⟨by decide, by decide⟩
    obtain ⟨T15, h15, X15, e15, W15, st15⟩ := stC X10 hx hZ e10 Ar14 (j := (1 : Int32)) hin14 (g := (mkF m 30 #[.val (.int i), .val (.int f), .val (.ref b3)] [(.int c1), (.int (1 : Int32)), (.ref b3)])) rfl rfl (hb hby own_d_method_3_code_30)
    have K16 : Keep h0 h15 [] := K11.wr W15 (Or.inr b5)
    have V15 : Arv Z h15 b3 k3 .char (2 : Int32) [(.int c0), (.int (nar .char c1))] (.int (0 : Int32)) := Arv.set Ar14 q14 S14 NN14 H14 G14 (fits_nar_char _) W15 1 rfl (Nat.le_of_ble_eq_true rfl)
    have Vs15 : Arv Z h15 b3 k3 .char (2 : Int32) [(.int c0), (.int c1)] (.int (0 : Int32)) := by rw [show (nar .char c1) = c1 from hr_c1.2] at V15; exact V15
    have N15 := Fr.snoc X15 N10 g4
    obtain ⟨T17, h17, X17, e17, E17, A17, D17, -, st17⟩ := newO X15 hx hZ hown (hw _ (List.mem_of_getElem? (i := 20) rfl)) (hw _ (List.mem_of_getElem? (i := 21) rfl)) (hw _ (List.mem_of_getElem? (i := 22) rfl)) e15 (g := (mkF m 31 #[.val (.int i), .val (.int f), .val (.ref b3)] [])) rfl (hb hby own_d_method_3_code_31) (by decide) (by decide)
    obtain ⟨b17, gg17⟩ : ∃ z, z = h15.size := ⟨_, rfl⟩
    rw [← gg17] at A17 D17 st17
    have ne18 : b3 ≠ b17 := Nat.ne_of_lt (Nat.lt_of_lt_of_le (Nat.lt_of_lt_of_le V3.lt (Nat.le_trans (Nat.le_of_eq (Wr.size W10).symm) (Nat.le_of_eq (Wr.size W15).symm))) (Nat.le_of_eq gg17.symm))
    have g19 : n0 ≤ b17 := Nat.le_trans (Nat.le_trans (own_le O0) K16.1) (Nat.le_of_eq gg17.symm)
    have b20 : h0.size ≤ b17 := Nat.le_trans K16.1 (Nat.le_of_eq gg17.symm)
    have K21 : Keep h0 h17 [] := K16.ext E17
    have hws : ∀ d ∈ StrChars.Road.words, d.before a0 Z = true := fun d hd => hw d (own_in_words d hd)
    have f22 : Arv Z h17 b3 k3 .char (2 : Int32) [(.int c0), (.int c1)] (.int (0 : Int32)) := (Vs15.ext E17)
    have hp23 : ∀ c ∈ ([c0, c1] : List Int32), ¬ c < 0 ∧ ¬ (255 : Int32) < c := own_allC hr_c0.1 (own_allC hr_c1.1 (own_all0))
    obtain ⟨_, _, ⟨T24, L24, k24, n24⟩, -, X24, ⟨Lc24, hQ24, l24, y24, z24⟩, st24⟩ := X17.specialBack hx (y := (⟨"java/lang/String", "<init>", "([C)V"⟩ : MethodName)) rfl hown (mvT hZ (hw _ (List.mem_of_getElem? (i := 23) rfl))) (mvT hZ (hw _ (List.mem_of_getElem? (i := 24) rfl))) (mvT hZ (hw _ (List.mem_of_getElem? (i := 25) rfl))) (by decide) (StrChars.Road.backV (W := 1) hZ hws (kI := 4) (hw _ (List.mem_of_getElem? (i := 21) rfl)) (cs := ([c0, c1] : List Int32)) (bs := ([c0, c1] : List Int32).map (fun c => c.toInt8.toInt32)) (n := 2) g19 (Nat.le_trans (own_le O0) K21.1) A17 (D17 (Or.inr (hw _ (List.mem_of_getElem? (i := 46) rfl))) (ty := (.array .byte)) (by decide)) (D17 (Or.inr (hw _ (List.mem_of_getElem? (i := 44) rfl))) (ty := .byte) (by decide)) f22 (hp0.ext (O0.keep K21 all0).2) hG1 rfl rfl (by decide) (by decide) hp23 rfl (by decide) (by decide)) (g := (mkF m 36 #[.val (.int i), .val (.int f), .val (.ref b3)] [(.ref b3), (.ref b17), (.ref b17)])) rfl (by rw [hml]; rfl) (Steps.refl _) (a := b17) (argsL := [(.ref b3)]) (rest := [(.ref b17)]) (lenOf own_pd0 rfl) rfl (by show 2 * 0 + _ ≤ _; exact Nat.le_of_eq rfl) (hb hby own_d_method_3_code_36) (fun _ _ => ⟨rfl, e17, (by decide : 2 + 1 ≤ _), (by decide : 6 + 2 ≤ _)⟩)
    dsimp only [Pt.U, Pt.locs, Pt.cells, Pt.slots] at X24 l24 y24 z24 st24 hQ24
    subst l24 y24 z24
    obtain ⟨rfl, Nq24, Kq24, Ea24, Fc24, t24, kb24, gt24, sz24, nt24, Fv24, Av24⟩ := hQ24
    have N24 := Fr.app N15 Nq24
    have ne25 : b3 ≠ t24 := Nat.ne_of_lt (Nat.lt_of_lt_of_le (Nat.lt_of_lt_of_le V3.lt (Nat.le_trans (Nat.le_trans (Nat.le_of_eq (Wr.size W10).symm) (Nat.le_of_eq (Wr.size W15).symm)) E17.1)) sz24)
    have ne26 : b17 ≠ t24 := Nat.ne_of_lt (Nat.lt_of_lt_of_le A17.lt sz24)
    have g27 : n0 ≤ t24 := Nat.le_trans (Nat.le_trans (own_le O0) K21.1) sz24
    have b28 : h0.size ≤ t24 := Nat.le_trans K21.1 sz24
    have K29 : Keep h0 T24.heap [] := K21.trans Kq24 (allS (Or.inr b20) all0)
    have Sr24 : own_Str Z T24.heap b17 t24 kb24 ([c0, c1] : List Int32) := ⟨Ea24, Fv24, Fc24, Av24, hp23, (by show 2 ≤ 4000; decide)⟩
    obtain ⟨fs, hr, hrun, hended, hW, hsame⟩ := X24.leave (v := some (.ref b17)) (fun h => by rw [Bd.returns] at h; cases h)
    refine ⟨_, _, r13 _ ?_, hrun, hended, _, _, rfl, ?_, ⟨_, rfl⟩, hW, hsame.mono (by decide) (by decide)⟩
    · show Steps p.tables e below (T10.setTop (mkF m 30 #[.val (.int i), .val (.int f), .val (.ref b3)] [(.int c1), (.int (1 : Int32)), (.ref b3)])) _
      refine st15 _ ?_
      show Steps p.tables e below (T15.setTop (mkF m 31 #[.val (.int i), .val (.int f), .val (.ref b3)] [])) _
      refine st17 _ ?_
      show Steps p.tables e below (T17.setTop (mkF m 34 #[.val (.int i), .val (.int f), .val (.ref b3)] [(.ref b17)])) _
      refine XS.dup X17.here hx rfl (hb hby own_d_method_3_code_34) rfl rfl ?_
      show Steps p.tables e below (T17.setTop (mkF m 35 #[.val (.int i), .val (.int f), .val (.ref b3)] [(.ref b17), (.ref b17)])) _
      refine XS.aloadN X17.here hx rfl (hb hby own_d_method_3_code_35) rfl rfl ?_
      show Steps p.tables e below (T17.setTop (mkF m 36 #[.val (.int i), .val (.int f), .val (.ref b3)] [(.ref b3), (.ref b17), (.ref b17)])) _
      refine st24.trans ?_
      show Steps p.tables e below (T24.setTop (mkF m 39 #[.val (.int i), .val (.int f), .val (.ref b3)] [(.ref b17)])) _
      exact retOut X24 hx (t := (.object "java/lang/String")) Bd.returns rfl (Or.inr (Or.inr (Or.inr (Or.inr ⟨rfl, rfl, rfl⟩)))) (hb hby own_d_method_3_code_39) hr
    · show Q_own_draw Z i f G1 h0 n0 _ T24.heap _
      exact ⟨(.ref b17), rfl, N24, K29, rfl⟩
  · obtain ⟨fs, hr, hrun, hended, hW, hsame⟩ := X0.leave (v := some .null) (fun h => by rw [Bd.returns] at h; cases h)
    refine ⟨_, _, r1 _ ?_, hrun, hended, _, _, rfl, ?_, ⟨_, rfl⟩, hW, hsame.mono (by decide) (by decide)⟩
    · show Steps p.tables e below (s₁.setTop (mkF m 1 #[.val (.int i), .val (.int f), .unset] [(.int f)])) _
      refine XS.ifNo X0.here hx rfl (hb hby own_d_method_3_code_1) rfl ((if0 _ _).trans (feq hc2).1) ?_
      show Steps p.tables e below (s₁.setTop (mkF m 4 #[.val (.int i), .val (.int f), .unset] [])) _
      refine XS.aconstNull X0.here hx rfl (hb hby own_d_method_3_code_4) ?_
      show Steps p.tables e below (s₁.setTop (mkF m 5 #[.val (.int i), .val (.int f), .unset] [.null])) _
      exact retOut X0 hx (t := (.object "java/lang/String")) Bd.returns rfl (Or.inr (Or.inr (Or.inr (Or.inr ⟨rfl, rfl, rfl⟩)))) (hb hby own_d_method_3_code_5) hr
    · show Q_own_draw Z i f G1 h0 n0 _ s₁.heap _
      rw [e0]
      exact ⟨.null, rfl, N0, K0, rfl⟩
theorem own_pn_own_set : plainName "com/example/interfold/interfold/slice/Token" = true := by first | (simp [plainName, overriddenIn]; done) | decide +kernel
theorem own_ef_own_set (m : MethodId) (a : Addr) (kd : Addr) (i1 : Int32) (i2 : Int32) (sv : Value) (hcv0 : sv.category = 1) : entryFrame m #[(.ref a), (.ref kd), (.int i1), (.int i2), sv] 5 = mkF m 0 #[.val (.ref a), .val (.ref kd), .val (.int i1), .val (.int i2), .val sv] [] := by first | (simp [entryFrame, mkF, argsToLocals, own_cI, own_cJ, own_cR, own_cN, hcv0]; done) | rfl
abbrev own_F_own_set (m : MethodId) (a : Addr) (kd : Addr) (i1 : Int32) (i2 : Int32) (sv : Value) : JFrame := entryFrame m #[(.ref a), (.ref kd), (.int i1), (.int i2), sv] 5
def Q_own_set (Z : State) (a : Addr) (kd : Addr) (i1 : Int32) (i2 : Int32) (sv : Value) (o0 : Value) (o1 : Value) (o2 : Value) (o3 : Value) (h0 : Heap) (n0 : Nat) (v : Option Value) (h : Heap) (L : List Loc) : Prop := v = none ∧ Fr n0 L ∧ Keep h0 h [a] ∧ (Exa Z h a "com/example/interfold/interfold/slice/Token") ∧ (Fld Z h a "com/example/interfold/interfold/slice/Token" "kind" "Lcom/example/interfold/interfold/slice/Token$Kind;" (.ref kd)) ∧ (Fld Z h a "com/example/interfold/interfold/slice/Token" "start" "I" (.int i1)) ∧ (Fld Z h a "com/example/interfold/interfold/slice/Token" "end" "I" (.int i2)) ∧ (Fld Z h a "com/example/interfold/interfold/slice/Token" "value" "Ljava/lang/String;" sv)
set_option maxRecDepth 65536 in
set_option maxHeartbeats 40000000 in
theorem own_set (l : Launch) (Z : State) (a0 : Array Value) (hw : ∀ d ∈ tables_1, d.before a0 Z = true) (ws : List Jvm.Cond) (a : Addr) (kd : Addr) (i1 : Int32) (i2 : Int32) (sv : Value) (o0 : Value) (o1 : Value) (o2 : Value) (o3 : Value) (h0 : Heap) (n0 : Nat) (O0 : Old Z n0 h0) (hsv : sv.isRef = true) (hp1 : Exa Z h0 a "com/example/interfold/interfold/slice/Token") (hp2 : n0 ≤ a) (hp3 : Fld Z h0 a "com/example/interfold/interfold/slice/Token" "kind" "Lcom/example/interfold/interfold/slice/Token$Kind;" o0) (hp4 : Fld Z h0 a "com/example/interfold/interfold/slice/Token" "start" "I" o1) (hp5 : Fld Z h0 a "com/example/interfold/interfold/slice/Token" "end" "I" o2) (hp6 : Fld Z h0 a "com/example/interfold/interfold/slice/Token" "value" "Ljava/lang/String;" o3) :
    MetFree l (⟨"com/example/interfold/interfold/slice/Token", "set", "(Lcom/example/interfold/interfold/slice/Token$Kind;IILjava/lang/String;)V"⟩ : MethodName) (head1 (Jvm.Cond.code (⟨"com/example/interfold/interfold/slice/Token", "set", "(Lcom/example/interfold/interfold/slice/Token$Kind;IILjava/lang/String;)V"⟩ : MethodName) prog_184_method_2_code 5 none :: ws) ({ frames := 0, cells := 0, slots := 0, locals := 0 } : Room)) (fun aa_ U_ => aa_ = #[(.ref a), (.ref kd), (.int i1), (.int i2), sv] ∧ Z.Warmed39 U_.vm ∧ U_.heap = h0) (fun _ _ _ _ _ => True) (fun _ U_ o_ V_ => ∃ v_ L_, o_ = .returned v_ ∧ Q_own_set Z a kd i1 i2 sv o0 o1 o2 o3 h0 n0 v_ V_.heap L_ ∧ FrameEnd U_ o_ V_ L_ ({ frames := 0, cells := 0, slots := 0, locals := 0 } : Room).cells ({ frames := 0, cells := 0, slots := 0, locals := 0 } : Room).slots) := by
  refine MetFree.of_bodySF (plainFor_of_name own_pn_own_set) hisR ?_
  intro p e s m args below meth c s₁ Bd hml0 hP hK
  obtain ⟨rfl, hZ, hh⟩ := hP
  have hx := Bd.exec
  have hby := Bd.bytes
  have hml : c.maxLocals = 5 := hml0
  have hown : s.vm.findClass "com/example/interfold/interfold/slice/Token" = some m.cls := findClass_of_methodNamed Bd.named
  have hnm := (name_of_methodNamed Bd.named Bd.method).1
  have X0 : Stand p l e ({ frames := 0, cells := 0, slots := 0, locals := 0 } : Room) s m #[(.ref a), (.ref kd), (.int i1), (.int i2), sv] below meth c s₁ [] 0 0 := Stand.of_body Bd
  have e0 : s₁.heap = h0 := by rw [← hh, Bd.state]; rfl
  have N0 := Fr.nil n0
  have K0 : Keep h0 h0 [a] := Keep.refl _ _
  have r0 : GoTo p.tables e below s₁ (own_F_own_set m a kd i1 i2 sv) s₁ (mkF m 0 #[.val (.ref a), .val (.ref kd), .val (.int i1), .val (.int i2), .val sv] []) := fun tt_ kk_ => castTop (own_ef_own_set m a kd i1 i2 sv (own_cat hsv)) kk_
  obtain ⟨T1, h1, X1, e1, W1, st1⟩ := putF X0 hx hZ hown (host := "") (Or.inl (hw _ (List.mem_of_getElem? (i := 52) rfl))) Via.refl e0 hp3 hp1 (Or.inl (hw _ (List.mem_of_getElem? (i := 53) rfl))) (hw _ (List.mem_of_getElem? (i := 1) rfl)) (ty := (.object "com/example/interfold/interfold/slice/Token$Kind")) (by decide) rfl rfl (g := (mkF m 2 #[.val (.ref a), .val (.ref kd), .val (.int i1), .val (.int i2), .val sv] [(.ref kd), (.ref a)])) rfl rfl (hb hby own_d_prog_184_method_2_code_2)
  have K2 : Keep h0 h1 [a] := K0.wr W1 (Or.inl (List.mem_of_getElem? (i := 0) rfl))
  have Fw1 : Fld Z h1 a "com/example/interfold/interfold/slice/Token" "kind" "Lcom/example/interfold/interfold/slice/Token$Kind;" (.ref kd) := hp3.same W1
  have N1 := Fr.snoc X1 N0 hp2
  have f3 : Fld Z h1 a "com/example/interfold/interfold/slice/Token" "start" "I" o1 := (hp4.other W1 (Or.inr (Jvm.RoadKit.slot_ne (Or.inl (hw _ (List.mem_of_getElem? (i := 55) rfl))) (Or.inl (hw _ (List.mem_of_getElem? (i := 53) rfl))) (by decide) (t := .int) (t' := (.object "com/example/interfold/interfold/slice/Token$Kind")) (by decide) (by decide))))
  have f4 : Exa Z h1 a "com/example/interfold/interfold/slice/Token" := (hp1.wr W1)
  obtain ⟨T5, h5, X5, e5, W5, st5⟩ := putF X1 hx hZ hown (host := "") (Or.inl (hw _ (List.mem_of_getElem? (i := 54) rfl))) Via.refl e1 f3 f4 (Or.inl (hw _ (List.mem_of_getElem? (i := 55) rfl))) (hw _ (List.mem_of_getElem? (i := 1) rfl)) (ty := .int) (by decide) rfl rfl (g := (mkF m 7 #[.val (.ref a), .val (.ref kd), .val (.int i1), .val (.int i2), .val sv] [(.int i1), (.ref a)])) rfl rfl (hb hby own_d_prog_184_method_2_code_7)
  have K6 : Keep h0 h5 [a] := K2.wr W5 (Or.inl (List.mem_of_getElem? (i := 0) rfl))
  have Fw5 : Fld Z h5 a "com/example/interfold/interfold/slice/Token" "start" "I" (.int i1) := f3.same W5
  have N5 := Fr.snoc X5 N1 hp2
  have f7 : Fld Z h5 a "com/example/interfold/interfold/slice/Token" "end" "I" o2 := ((hp5.other W1 (Or.inr (Jvm.RoadKit.slot_ne (Or.inl (hw _ (List.mem_of_getElem? (i := 57) rfl))) (Or.inl (hw _ (List.mem_of_getElem? (i := 53) rfl))) (by decide) (t := .int) (t' := (.object "com/example/interfold/interfold/slice/Token$Kind")) (by decide) (by decide)))).other W5 (Or.inr (Jvm.RoadKit.slot_ne (Or.inl (hw _ (List.mem_of_getElem? (i := 57) rfl))) (Or.inl (hw _ (List.mem_of_getElem? (i := 55) rfl))) (by decide) (t := .int) (t' := .int) (by decide) (by decide))))
  have f8 : Exa Z h5 a "com/example/interfold/interfold/slice/Token" := (f4.wr W5)
  obtain ⟨T9, h9, X9, e9, W9, st9⟩ := putF X5 hx hZ hown (host := "") (Or.inl (hw _ (List.mem_of_getElem? (i := 56) rfl))) Via.refl e5 f7 f8 (Or.inl (hw _ (List.mem_of_getElem? (i := 57) rfl))) (hw _ (List.mem_of_getElem? (i := 1) rfl)) (ty := .int) (by decide) rfl rfl (g := (mkF m 12 #[.val (.ref a), .val (.ref kd), .val (.int i1), .val (.int i2), .val sv] [(.int i2), (.ref a)])) rfl rfl (hb hby own_d_prog_184_method_2_code_12)
  have K10 : Keep h0 h9 [a] := K6.wr W9 (Or.inl (List.mem_of_getElem? (i := 0) rfl))
  have Fw9 : Fld Z h9 a "com/example/interfold/interfold/slice/Token" "end" "I" (.int i2) := f7.same W9
  have N9 := Fr.snoc X9 N5 hp2
  have f11 : Fld Z h9 a "com/example/interfold/interfold/slice/Token" "value" "Ljava/lang/String;" o3 := (((hp6.other W1 (Or.inr (Jvm.RoadKit.slot_ne (Or.inl (hw _ (List.mem_of_getElem? (i := 59) rfl))) (Or.inl (hw _ (List.mem_of_getElem? (i := 53) rfl))) (by decide) (t := (.object "java/lang/String")) (t' := (.object "com/example/interfold/interfold/slice/Token$Kind")) (by decide) (by decide)))).other W5 (Or.inr (Jvm.RoadKit.slot_ne (Or.inl (hw _ (List.mem_of_getElem? (i := 59) rfl))) (Or.inl (hw _ (List.mem_of_getElem? (i := 55) rfl))) (by decide) (t := (.object "java/lang/String")) (t' := .int) (by decide) (by decide)))).other W9 (Or.inr (Jvm.RoadKit.slot_ne (Or.inl (hw _ (List.mem_of_getElem? (i := 59) rfl))) (Or.inl (hw _ (List.mem_of_getElem? (i := 57) rfl))) (by decide) (t := (.object "java/lang/String")) (t' := .int) (by decide) (by decide))))
  have f12 : Exa Z h9 a "com/example/interfold/interfold/slice/Token" := (f8.wr W9)
  obtain ⟨T13, h13, X13, e13, W13, st13⟩ := putF X9 hx hZ hown (host := "") (Or.inl (hw _ (List.mem_of_getElem? (i := 58) rfl))) Via.refl e9 f11 f12 (Or.inl (hw _ (List.mem_of_getElem? (i := 59) rfl))) (hw _ (List.mem_of_getElem? (i := 1) rfl)) (ty := (.object "java/lang/String")) (by decide) rfl (own_fits_ref (by decide) hsv) (g := (mkF m 18 #[.val (.ref a), .val (.ref kd), .val (.int i1), .val (.int i2), .val sv] [sv, (.ref a)])) rfl rfl (hb hby own_d_prog_184_method_2_code_18)
  have K14 : Keep h0 h13 [a] := K10.wr W13 (Or.inl (List.mem_of_getElem? (i := 0) rfl))
  have Fw13 : Fld Z h13 a "com/example/interfold/interfold/slice/Token" "value" "Ljava/lang/String;" sv := f11.same W13
  have N13 := Fr.snoc X13 N9 hp2
  obtain ⟨fs, hr, hrun, hended, hW, hsame⟩ := X13.leave (v := none) (fun _ => rfl)
  refine ⟨_, _, r0 _ ?_, hrun, hended, _, _, rfl, ?_, ⟨_, rfl⟩, hW, hsame.mono (by decide) (by decide)⟩
  · show Steps p.tables e below (s₁.setTop (mkF m 0 #[.val (.ref a), .val (.ref kd), .val (.int i1), .val (.int i2), .val sv] [])) _
    refine XS.aloadN X0.here hx rfl (hb hby own_d_prog_184_method_2_code_0) rfl rfl ?_
    show Steps p.tables e below (s₁.setTop (mkF m 1 #[.val (.ref a), .val (.ref kd), .val (.int i1), .val (.int i2), .val sv] [(.ref a)])) _
    refine XS.aloadN X0.here hx rfl (hb hby own_d_prog_184_method_2_code_1) rfl rfl ?_
    show Steps p.tables e below (s₁.setTop (mkF m 2 #[.val (.ref a), .val (.ref kd), .val (.int i1), .val (.int i2), .val sv] [(.ref kd), (.ref a)])) _
    refine st1 _ ?_
    show Steps p.tables e below (T1.setTop (mkF m 5 #[.val (.ref a), .val (.ref kd), .val (.int i1), .val (.int i2), .val sv] [])) _
    refine XS.aloadN X1.here hx rfl (hb hby own_d_prog_184_method_2_code_5) rfl rfl ?_
    show Steps p.tables e below (T1.setTop (mkF m 6 #[.val (.ref a), .val (.ref kd), .val (.int i1), .val (.int i2), .val sv] [(.ref a)])) _
    refine XS.iloadN X1.here hx rfl (hb hby own_d_prog_184_method_2_code_6) rfl ?_
    show Steps p.tables e below (T1.setTop (mkF m 7 #[.val (.ref a), .val (.ref kd), .val (.int i1), .val (.int i2), .val sv] [(.int i1), (.ref a)])) _
    refine st5 _ ?_
    show Steps p.tables e below (T5.setTop (mkF m 10 #[.val (.ref a), .val (.ref kd), .val (.int i1), .val (.int i2), .val sv] [])) _
    refine XS.aloadN X5.here hx rfl (hb hby own_d_prog_184_method_2_code_10) rfl rfl ?_
    show Steps p.tables e below (T5.setTop (mkF m 11 #[.val (.ref a), .val (.ref kd), .val (.int i1), .val (.int i2), .val sv] [(.ref a)])) _
    refine XS.iloadN X5.here hx rfl (hb hby own_d_prog_184_method_2_code_11) rfl ?_
    show Steps p.tables e below (T5.setTop (mkF m 12 #[.val (.ref a), .val (.ref kd), .val (.int i1), .val (.int i2), .val sv] [(.int i2), (.ref a)])) _
    refine st9 _ ?_
    show Steps p.tables e below (T9.setTop (mkF m 15 #[.val (.ref a), .val (.ref kd), .val (.int i1), .val (.int i2), .val sv] [])) _
    refine XS.aloadN X9.here hx rfl (hb hby own_d_prog_184_method_2_code_15) rfl rfl ?_
    show Steps p.tables e below (T9.setTop (mkF m 16 #[.val (.ref a), .val (.ref kd), .val (.int i1), .val (.int i2), .val sv] [(.ref a)])) _
    refine XS.aload X9.here hx rfl (hb hby own_d_prog_184_method_2_code_16) rfl hsv ?_
    show Steps p.tables e below (T9.setTop (mkF m 18 #[.val (.ref a), .val (.ref kd), .val (.int i1), .val (.int i2), .val sv] [sv, (.ref a)])) _
    refine st13 _ ?_
    show Steps p.tables e below (T13.setTop (mkF m 21 #[.val (.ref a), .val (.ref kd), .val (.int i1), .val (.int i2), .val sv] [])) _
    exact X13.returnOut hx Bd.returns (hb hby own_d_prog_184_method_2_code_21) hr
  · show Q_own_set Z a kd i1 i2 sv o0 o1 o2 o3 h0 n0 _ T13.heap _
    rw [e13]
    have f15 : Exa Z h13 a "com/example/interfold/interfold/slice/Token" := (f12.wr W13)
    have f16 : Fld Z h13 a "com/example/interfold/interfold/slice/Token" "kind" "Lcom/example/interfold/interfold/slice/Token$Kind;" (.ref kd) := (((Fw1.other W5 (Or.inr (Jvm.RoadKit.slot_ne (Or.inl (hw _ (List.mem_of_getElem? (i := 53) rfl))) (Or.inl (hw _ (List.mem_of_getElem? (i := 55) rfl))) (by decide) (t := (.object "com/example/interfold/interfold/slice/Token$Kind")) (t' := .int) (by decide) (by decide)))).other W9 (Or.inr (Jvm.RoadKit.slot_ne (Or.inl (hw _ (List.mem_of_getElem? (i := 53) rfl))) (Or.inl (hw _ (List.mem_of_getElem? (i := 57) rfl))) (by decide) (t := (.object "com/example/interfold/interfold/slice/Token$Kind")) (t' := .int) (by decide) (by decide)))).other W13 (Or.inr (Jvm.RoadKit.slot_ne (Or.inl (hw _ (List.mem_of_getElem? (i := 53) rfl))) (Or.inl (hw _ (List.mem_of_getElem? (i := 59) rfl))) (by decide) (t := (.object "com/example/interfold/interfold/slice/Token$Kind")) (t' := (.object "java/lang/String")) (by decide) (by decide))))
    have f17 : Fld Z h13 a "com/example/interfold/interfold/slice/Token" "start" "I" (.int i1) := ((Fw5.other W9 (Or.inr (Jvm.RoadKit.slot_ne (Or.inl (hw _ (List.mem_of_getElem? (i := 55) rfl))) (Or.inl (hw _ (List.mem_of_getElem? (i := 57) rfl))) (by decide) (t := .int) (t' := .int) (by decide) (by decide)))).other W13 (Or.inr (Jvm.RoadKit.slot_ne (Or.inl (hw _ (List.mem_of_getElem? (i := 55) rfl))) (Or.inl (hw _ (List.mem_of_getElem? (i := 59) rfl))) (by decide) (t := .int) (t' := (.object "java/lang/String")) (by decide) (by decide))))
    have f18 : Fld Z h13 a "com/example/interfold/interfold/slice/Token" "end" "I" (.int i2) := (Fw9.other W13 (Or.inr (Jvm.RoadKit.slot_ne (Or.inl (hw _ (List.mem_of_getElem? (i := 57) rfl))) (Or.inl (hw _ (List.mem_of_getElem? (i := 59) rfl))) (by decide) (t := .int) (t' := (.object "java/lang/String")) (by decide) (by decide))))
    exact ⟨rfl, N13, K14, f15, f16, f17, f18, Fw13⟩
theorem own_pn_own_kind : plainName "com/example/interfold/interfold/slice/Token" = true := by first | (simp [plainName, overriddenIn]; done) | decide +kernel
theorem own_ef_own_kind (m : MethodId) (a : Addr) : entryFrame m #[(.ref a)] 1 = mkF m 0 #[.val (.ref a)] [] := by first | (simp [entryFrame, mkF, argsToLocals, own_cI, own_cJ, own_cR, own_cN]; done) | rfl
abbrev own_F_own_kind (m : MethodId) (a : Addr) : JFrame := entryFrame m #[(.ref a)] 1
def Q_own_kind (Z : State) (a : Addr) (kd : Addr) (h0 : Heap) (n0 : Nat) (v : Option Value) (h : Heap) (L : List Loc) : Prop := v = some (.ref kd) ∧ Fr n0 L ∧ h = h0
set_option maxRecDepth 65536 in
set_option maxHeartbeats 40000000 in
theorem own_kind (l : Launch) (Z : State) (a0 : Array Value) (hw : ∀ d ∈ tables_1, d.before a0 Z = true) (ws : List Jvm.Cond) (a : Addr) (kd : Addr) (h0 : Heap) (n0 : Nat) (O0 : Old Z n0 h0) (hp0 : Fld Z h0 a "com/example/interfold/interfold/slice/Token" "kind" "Lcom/example/interfold/interfold/slice/Token$Kind;" (.ref kd)) :
    MetFree l (⟨"com/example/interfold/interfold/slice/Token", "kind", "()Lcom/example/interfold/interfold/slice/Token$Kind;"⟩ : MethodName) (head1 (Jvm.Cond.code (⟨"com/example/interfold/interfold/slice/Token", "kind", "()Lcom/example/interfold/interfold/slice/Token$Kind;"⟩ : MethodName) prog_184_method_3_code 1 (some (.object "com/example/interfold/interfold/slice/Token$Kind")) :: ws) ({ frames := 0, cells := 0, slots := 0, locals := 0 } : Room)) (fun aa_ U_ => aa_ = #[(.ref a)] ∧ Z.Warmed39 U_.vm ∧ U_.heap = h0) (fun _ _ _ _ _ => True) (fun _ U_ o_ V_ => ∃ v_ L_, o_ = .returned v_ ∧ Q_own_kind Z a kd h0 n0 v_ V_.heap L_ ∧ FrameEnd U_ o_ V_ L_ ({ frames := 0, cells := 0, slots := 0, locals := 0 } : Room).cells ({ frames := 0, cells := 0, slots := 0, locals := 0 } : Room).slots) := by
  refine MetFree.of_bodySF (plainFor_of_name own_pn_own_kind) hisR ?_
  intro p e s m args below meth c s₁ Bd hml0 hP hK
  obtain ⟨rfl, hZ, hh⟩ := hP
  have hx := Bd.exec
  have hby := Bd.bytes
  have hml : c.maxLocals = 1 := hml0
  have hown : s.vm.findClass "com/example/interfold/interfold/slice/Token" = some m.cls := findClass_of_methodNamed Bd.named
  have hnm := (name_of_methodNamed Bd.named Bd.method).1
  have X0 : Stand p l e ({ frames := 0, cells := 0, slots := 0, locals := 0 } : Room) s m #[(.ref a)] below meth c s₁ [] 0 0 := Stand.of_body Bd
  have e0 : s₁.heap = h0 := by rw [← hh, Bd.state]; rfl
  have N0 := Fr.nil n0
  have K0 : Keep h0 h0 [] := Keep.refl _ _
  have r0 : GoTo p.tables e below s₁ (own_F_own_kind m a) s₁ (mkF m 0 #[.val (.ref a)] []) := fun tt_ kk_ => castTop (own_ef_own_kind m a) kk_
  obtain ⟨T1, X1, e1, st1⟩ := getF X0 hx hZ hown (host := "") (Or.inl (hw _ (List.mem_of_getElem? (i := 52) rfl))) Via.refl e0 hp0 (g := (mkF m 1 #[.val (.ref a)] [(.ref a)])) rfl rfl (hb hby own_d_prog_184_method_3_code_1)
  obtain ⟨fs, hr, hrun, hended, hW, hsame⟩ := X1.leave (v := some (.ref kd)) (fun h => by rw [Bd.returns] at h; cases h)
  refine ⟨_, _, r0 _ ?_, hrun, hended, _, _, rfl, ?_, ⟨_, rfl⟩, hW, hsame.mono (by decide) (by decide)⟩
  · show Steps p.tables e below (s₁.setTop (mkF m 0 #[.val (.ref a)] [])) _
    refine XS.aloadN X0.here hx rfl (hb hby own_d_prog_184_method_3_code_0) rfl rfl ?_
    show Steps p.tables e below (s₁.setTop (mkF m 1 #[.val (.ref a)] [(.ref a)])) _
    refine st1 _ ?_
    show Steps p.tables e below (T1.setTop (mkF m 4 #[.val (.ref a)] [(.ref kd)])) _
    exact retOut X1 hx (t := (.object "com/example/interfold/interfold/slice/Token$Kind")) Bd.returns rfl (Or.inr (Or.inr (Or.inr (Or.inr ⟨rfl, rfl, rfl⟩)))) (hb hby own_d_prog_184_method_3_code_4) hr
  · show Q_own_kind Z a kd h0 n0 _ T1.heap _
    rw [e1]
    exact ⟨rfl, N0, rfl⟩
theorem own_pn_own_start : plainName "com/example/interfold/interfold/slice/Token" = true := by first | (simp [plainName, overriddenIn]; done) | decide +kernel
theorem own_ef_own_start (m : MethodId) (a : Addr) : entryFrame m #[(.ref a)] 1 = mkF m 0 #[.val (.ref a)] [] := by first | (simp [entryFrame, mkF, argsToLocals, own_cI, own_cJ, own_cR, own_cN]; done) | rfl
abbrev own_F_own_start (m : MethodId) (a : Addr) : JFrame := entryFrame m #[(.ref a)] 1
def Q_own_start (Z : State) (a : Addr) (i : Int32) (h0 : Heap) (n0 : Nat) (v : Option Value) (h : Heap) (L : List Loc) : Prop := v = some (.int i) ∧ Fr n0 L ∧ h = h0
set_option maxRecDepth 65536 in
set_option maxHeartbeats 40000000 in
theorem own_start (l : Launch) (Z : State) (a0 : Array Value) (hw : ∀ d ∈ tables_1, d.before a0 Z = true) (ws : List Jvm.Cond) (a : Addr) (i : Int32) (h0 : Heap) (n0 : Nat) (O0 : Old Z n0 h0) (hp0 : Fld Z h0 a "com/example/interfold/interfold/slice/Token" "start" "I" (.int i)) :
    MetFree l (⟨"com/example/interfold/interfold/slice/Token", "start", "()I"⟩ : MethodName) (head1 (Jvm.Cond.code (⟨"com/example/interfold/interfold/slice/Token", "start", "()I"⟩ : MethodName) prog_184_method_4_code 1 (some .int) :: ws) ({ frames := 0, cells := 0, slots := 0, locals := 0 } : Room)) (fun aa_ U_ => aa_ = #[(.ref a)] ∧ Z.Warmed39 U_.vm ∧ U_.heap = h0) (fun _ _ _ _ _ => True) (fun _ U_ o_ V_ => ∃ v_ L_, o_ = .returned v_ ∧ Q_own_start Z a i h0 n0 v_ V_.heap L_ ∧ FrameEnd U_ o_ V_ L_ ({ frames := 0, cells := 0, slots := 0, locals := 0 } : Room).cells ({ frames := 0, cells := 0, slots := 0, locals := 0 } : Room).slots) := by
  refine MetFree.of_bodySF (plainFor_of_name own_pn_own_start) hisR ?_
  intro p e s m args below meth c s₁ Bd hml0 hP hK
  obtain ⟨rfl, hZ, hh⟩ := hP
  have hx := Bd.exec
  have hby := Bd.bytes
  have hml : c.maxLocals = 1 := hml0
  have hown : s.vm.findClass "com/example/interfold/interfold/slice/Token" = some m.cls := findClass_of_methodNamed Bd.named
  have hnm := (name_of_methodNamed Bd.named Bd.method).1
  have X0 : Stand p l e ({ frames := 0, cells := 0, slots := 0, locals := 0 } : Room) s m #[(.ref a)] below meth c s₁ [] 0 0 := Stand.of_body Bd
  have e0 : s₁.heap = h0 := by rw [← hh, Bd.state]; rfl
  have N0 := Fr.nil n0
  have K0 : Keep h0 h0 [] := Keep.refl _ _
  have r0 : GoTo p.tables e below s₁ (own_F_own_start m a) s₁ (mkF m 0 #[.val (.ref a)] []) := fun tt_ kk_ => castTop (own_ef_own_start m a) kk_
  obtain ⟨T1, X1, e1, st1⟩ := getF X0 hx hZ hown (host := "") (Or.inl (hw _ (List.mem_of_getElem? (i := 54) rfl))) Via.refl e0 hp0 (g := (mkF m 1 #[.val (.ref a)] [(.ref a)])) rfl rfl (hb hby own_d_prog_184_method_4_code_1)
  obtain ⟨fs, hr, hrun, hended, hW, hsame⟩ := X1.leave (v := some (.int i)) (fun h => by rw [Bd.returns] at h; cases h)
  refine ⟨_, _, r0 _ ?_, hrun, hended, _, _, rfl, ?_, ⟨_, rfl⟩, hW, hsame.mono (by decide) (by decide)⟩
  · show Steps p.tables e below (s₁.setTop (mkF m 0 #[.val (.ref a)] [])) _
    refine XS.aloadN X0.here hx rfl (hb hby own_d_prog_184_method_4_code_0) rfl rfl ?_
    show Steps p.tables e below (s₁.setTop (mkF m 1 #[.val (.ref a)] [(.ref a)])) _
    refine st1 _ ?_
    show Steps p.tables e below (T1.setTop (mkF m 4 #[.val (.ref a)] [(.int i)])) _
    exact retI X1 hx Bd.returns (hb hby own_d_prog_184_method_4_code_4) hr
  · show Q_own_start Z a i h0 n0 _ T1.heap _
    rw [e1]
    exact ⟨rfl, N0, rfl⟩
theorem own_pn_own_endd : plainName "com/example/interfold/interfold/slice/Token" = true := by first | (simp [plainName, overriddenIn]; done) | decide +kernel
theorem own_ef_own_endd (m : MethodId) (a : Addr) : entryFrame m #[(.ref a)] 1 = mkF m 0 #[.val (.ref a)] [] := by first | (simp [entryFrame, mkF, argsToLocals, own_cI, own_cJ, own_cR, own_cN]; done) | rfl
abbrev own_F_own_endd (m : MethodId) (a : Addr) : JFrame := entryFrame m #[(.ref a)] 1
def Q_own_endd (Z : State) (a : Addr) (i : Int32) (h0 : Heap) (n0 : Nat) (v : Option Value) (h : Heap) (L : List Loc) : Prop := v = some (.int i) ∧ Fr n0 L ∧ h = h0
set_option maxRecDepth 65536 in
set_option maxHeartbeats 40000000 in
theorem own_endd (l : Launch) (Z : State) (a0 : Array Value) (hw : ∀ d ∈ tables_1, d.before a0 Z = true) (ws : List Jvm.Cond) (a : Addr) (i : Int32) (h0 : Heap) (n0 : Nat) (O0 : Old Z n0 h0) (hp0 : Fld Z h0 a "com/example/interfold/interfold/slice/Token" "end" "I" (.int i)) :
    MetFree l (⟨"com/example/interfold/interfold/slice/Token", "end", "()I"⟩ : MethodName) (head1 (Jvm.Cond.code (⟨"com/example/interfold/interfold/slice/Token", "end", "()I"⟩ : MethodName) prog_184_method_5_code 1 (some .int) :: ws) ({ frames := 0, cells := 0, slots := 0, locals := 0 } : Room)) (fun aa_ U_ => aa_ = #[(.ref a)] ∧ Z.Warmed39 U_.vm ∧ U_.heap = h0) (fun _ _ _ _ _ => True) (fun _ U_ o_ V_ => ∃ v_ L_, o_ = .returned v_ ∧ Q_own_endd Z a i h0 n0 v_ V_.heap L_ ∧ FrameEnd U_ o_ V_ L_ ({ frames := 0, cells := 0, slots := 0, locals := 0 } : Room).cells ({ frames := 0, cells := 0, slots := 0, locals := 0 } : Room).slots) := by
  refine MetFree.of_bodySF (plainFor_of_name own_pn_own_endd) hisR ?_
  intro p e s m args below meth c s₁ Bd hml0 hP hK
  obtain ⟨rfl, hZ, hh⟩ := hP
  have hx := Bd.exec
  have hby := Bd.bytes
  have hml : c.maxLocals = 1 := hml0
  have hown : s.vm.findClass "com/example/interfold/interfold/slice/Token" = some m.cls := findClass_of_methodNamed Bd.named
  have hnm := (name_of_methodNamed Bd.named Bd.method).1
  have X0 : Stand p l e ({ frames := 0, cells := 0, slots := 0, locals := 0 } : Room) s m #[(.ref a)] below meth c s₁ [] 0 0 := Stand.of_body Bd
  have e0 : s₁.heap = h0 := by rw [← hh, Bd.state]; rfl
  have N0 := Fr.nil n0
  have K0 : Keep h0 h0 [] := Keep.refl _ _
  have r0 : GoTo p.tables e below s₁ (own_F_own_endd m a) s₁ (mkF m 0 #[.val (.ref a)] []) := fun tt_ kk_ => castTop (own_ef_own_endd m a) kk_
  obtain ⟨T1, X1, e1, st1⟩ := getF X0 hx hZ hown (host := "") (Or.inl (hw _ (List.mem_of_getElem? (i := 56) rfl))) Via.refl e0 hp0 (g := (mkF m 1 #[.val (.ref a)] [(.ref a)])) rfl rfl (hb hby own_d_prog_184_method_5_code_1)
  obtain ⟨fs, hr, hrun, hended, hW, hsame⟩ := X1.leave (v := some (.int i)) (fun h => by rw [Bd.returns] at h; cases h)
  refine ⟨_, _, r0 _ ?_, hrun, hended, _, _, rfl, ?_, ⟨_, rfl⟩, hW, hsame.mono (by decide) (by decide)⟩
  · show Steps p.tables e below (s₁.setTop (mkF m 0 #[.val (.ref a)] [])) _
    refine XS.aloadN X0.here hx rfl (hb hby own_d_prog_184_method_5_code_0) rfl rfl ?_
    show Steps p.tables e below (s₁.setTop (mkF m 1 #[.val (.ref a)] [(.ref a)])) _
    refine st1 _ ?_
    show Steps p.tables e below (T1.setTop (mkF m 4 #[.val (.ref a)] [(.int i)])) _
    exact retI X1 hx Bd.returns (hb hby own_d_prog_184_method_5_code_4) hr
  · show Q_own_endd Z a i h0 n0 _ T1.heap _
    rw [e1]
    exact ⟨rfl, N0, rfl⟩
theorem own_pn_own_value : plainName "com/example/interfold/interfold/slice/Token" = true := by first | (simp [plainName, overriddenIn]; done) | decide +kernel
theorem own_ef_own_value (m : MethodId) (a : Addr) : entryFrame m #[(.ref a)] 1 = mkF m 0 #[.val (.ref a)] [] := by first | (simp [entryFrame, mkF, argsToLocals, own_cI, own_cJ, own_cR, own_cN]; done) | rfl
abbrev own_F_own_value (m : MethodId) (a : Addr) : JFrame := entryFrame m #[(.ref a)] 1
def Q_own_value (Z : State) (a : Addr) (sv : Value) (h0 : Heap) (n0 : Nat) (v : Option Value) (h : Heap) (L : List Loc) : Prop := v = some sv ∧ Fr n0 L ∧ h = h0
set_option maxRecDepth 65536 in
set_option maxHeartbeats 40000000 in
theorem own_value (l : Launch) (Z : State) (a0 : Array Value) (hw : ∀ d ∈ tables_1, d.before a0 Z = true) (ws : List Jvm.Cond) (a : Addr) (sv : Value) (h0 : Heap) (n0 : Nat) (O0 : Old Z n0 h0) (hsv : sv.isRef = true) (hp1 : Fld Z h0 a "com/example/interfold/interfold/slice/Token" "value" "Ljava/lang/String;" sv) :
    MetFree l (⟨"com/example/interfold/interfold/slice/Token", "value", "()Ljava/lang/String;"⟩ : MethodName) (head1 (Jvm.Cond.code (⟨"com/example/interfold/interfold/slice/Token", "value", "()Ljava/lang/String;"⟩ : MethodName) prog_184_method_6_code 1 (some (.object "java/lang/String")) :: ws) ({ frames := 0, cells := 0, slots := 0, locals := 0 } : Room)) (fun aa_ U_ => aa_ = #[(.ref a)] ∧ Z.Warmed39 U_.vm ∧ U_.heap = h0) (fun _ _ _ _ _ => True) (fun _ U_ o_ V_ => ∃ v_ L_, o_ = .returned v_ ∧ Q_own_value Z a sv h0 n0 v_ V_.heap L_ ∧ FrameEnd U_ o_ V_ L_ ({ frames := 0, cells := 0, slots := 0, locals := 0 } : Room).cells ({ frames := 0, cells := 0, slots := 0, locals := 0 } : Room).slots) := by
  refine MetFree.of_bodySF (plainFor_of_name own_pn_own_value) hisR ?_
  intro p e s m args below meth c s₁ Bd hml0 hP hK
  obtain ⟨rfl, hZ, hh⟩ := hP
  have hx := Bd.exec
  have hby := Bd.bytes
  have hml : c.maxLocals = 1 := hml0
  have hown : s.vm.findClass "com/example/interfold/interfold/slice/Token" = some m.cls := findClass_of_methodNamed Bd.named
  have hnm := (name_of_methodNamed Bd.named Bd.method).1
  have X0 : Stand p l e ({ frames := 0, cells := 0, slots := 0, locals := 0 } : Room) s m #[(.ref a)] below meth c s₁ [] 0 0 := Stand.of_body Bd
  have e0 : s₁.heap = h0 := by rw [← hh, Bd.state]; rfl
  have N0 := Fr.nil n0
  have K0 : Keep h0 h0 [] := Keep.refl _ _
  have r0 : GoTo p.tables e below s₁ (own_F_own_value m a) s₁ (mkF m 0 #[.val (.ref a)] []) := fun tt_ kk_ => castTop (own_ef_own_value m a) kk_
  obtain ⟨T1, X1, e1, st1⟩ := getF X0 hx hZ hown (host := "") (Or.inl (hw _ (List.mem_of_getElem? (i := 58) rfl))) Via.refl e0 hp1 (g := (mkF m 1 #[.val (.ref a)] [(.ref a)])) rfl rfl (hb hby own_d_prog_184_method_6_code_1)
  obtain ⟨fs, hr, hrun, hended, hW, hsame⟩ := X1.leave (v := some sv) (fun h => by rw [Bd.returns] at h; cases h)
  refine ⟨_, _, r0 _ ?_, hrun, hended, _, _, rfl, ?_, ⟨_, rfl⟩, hW, hsame.mono (by decide) (by decide)⟩
  · show Steps p.tables e below (s₁.setTop (mkF m 0 #[.val (.ref a)] [])) _
    refine XS.aloadN X0.here hx rfl (hb hby own_d_prog_184_method_6_code_0) rfl rfl ?_
    show Steps p.tables e below (s₁.setTop (mkF m 1 #[.val (.ref a)] [(.ref a)])) _
    refine st1 _ ?_
    show Steps p.tables e below (T1.setTop (mkF m 4 #[.val (.ref a)] [sv])) _
    exact retOut X1 hx (t := (.object "java/lang/String")) Bd.returns rfl (Or.inr (Or.inr (Or.inr (Or.inr ⟨rfl, rfl, hsv⟩)))) (hb hby own_d_prog_184_method_6_code_4) hr
  · show Q_own_value Z a sv h0 n0 _ T1.heap _
    rw [e1]
    exact ⟨rfl, N0, rfl⟩
theorem own_pn_own_law : plainName "com/example/interfold/interfold/slice/TokenSet141PinLaw" = true := by first | (simp [plainName, overriddenIn]; done) | decide +kernel
theorem own_ef_own_law (m : MethodId) (j0 : Int32) (j1 : Int32) (j2 : Int32) (j3 : Int32) (j4 : Int32) (j5 : Int32) : entryFrame m #[(.int j0), (.int j1), (.int j2), (.int j3), (.int j4), (.int j5)] maxLocals = mkF m 0 #[.val (.int j0), .val (.int j1), .val (.int j2), .val (.int j3), .val (.int j4), .val (.int j5), .unset, .unset, .unset, .unset, .unset] [] := by first | (simp [entryFrame, mkF, argsToLocals, own_cI, own_cJ, own_cR, own_cN, maxLocals]; done) | rfl
abbrev own_F_own_law (m : MethodId) (j0 : Int32) (j1 : Int32) (j2 : Int32) (j3 : Int32) (j4 : Int32) (j5 : Int32) : JFrame := entryFrame m #[(.int j0), (.int j1), (.int j2), (.int j3), (.int j4), (.int j5)] maxLocals
def Q_own_law (Z : State) (j0 : Int32) (j1 : Int32) (j2 : Int32) (j3 : Int32) (j4 : Int32) (j5 : Int32) (u0 : Addr) (u1 : Addr) (u2 : Addr) (u3 : Addr) (u4 : Addr) (u5 : Addr) (u6 : Addr) (u7 : Addr) (G1 : Int32) (h0 : Heap) (n0 : Nat) (v : Option Value) (h : Heap) (L : List Loc) : Prop := v = some (.int (1 : Int32)) ∧ Fr n0 L
set_option maxRecDepth 65536 in
set_option maxHeartbeats 40000000 in
theorem own_law (l : Launch) (Z : State) (a0 : Array Value) (hw : ∀ d ∈ tables_1, d.before a0 Z = true) (ws : List Jvm.Cond) (j0 : Int32) (j1 : Int32) (j2 : Int32) (j3 : Int32) (j4 : Int32) (j5 : Int32) (u0 : Addr) (u1 : Addr) (u2 : Addr) (u3 : Addr) (u4 : Addr) (u5 : Addr) (u6 : Addr) (u7 : Addr) (G1 : Int32) (h0 : Heap) (n0 : Nat) (O0 : Old Z n0 h0) (hp0 : Sta Z Z.heap "com/example/interfold/interfold/slice/Token$Kind" "IDENTIFIER" "Lcom/example/interfold/interfold/slice/Token$Kind;" (.ref u0)) (hp1 : Sta Z Z.heap "com/example/interfold/interfold/slice/Token$Kind" "KEYWORD" "Lcom/example/interfold/interfold/slice/Token$Kind;" (.ref u1)) (hp2 : Sta Z Z.heap "com/example/interfold/interfold/slice/Token$Kind" "INTEGER" "Lcom/example/interfold/interfold/slice/Token$Kind;" (.ref u2)) (hp3 : Sta Z Z.heap "com/example/interfold/interfold/slice/Token$Kind" "STRING" "Lcom/example/interfold/interfold/slice/Token$Kind;" (.ref u3)) (hp4 : Sta Z Z.heap "com/example/interfold/interfold/slice/Token$Kind" "DOC_COMMENT" "Lcom/example/interfold/interfold/slice/Token$Kind;" (.ref u4)) (hp5 : Sta Z Z.heap "com/example/interfold/interfold/slice/Token$Kind" "LEFT_PAREN" "Lcom/example/interfold/interfold/slice/Token$Kind;" (.ref u5)) (hp6 : Sta Z Z.heap "com/example/interfold/interfold/slice/Token$Kind" "ARROW" "Lcom/example/interfold/interfold/slice/Token$Kind;" (.ref u6)) (hp7 : Sta Z Z.heap "com/example/interfold/interfold/slice/Token$Kind" "END" "Lcom/example/interfold/interfold/slice/Token$Kind;" (.ref u7)) (hp8 : Sta Z Z.heap "java/lang/String" "COMPACT_STRINGS" "Z" (.int G1)) (hG1 : ¬ G1 = (0 : Int32)) :
    MetFree l x (head1 (Jvm.Cond.code x code maxLocals ret :: ws) room_1) (fun aa_ U_ => aa_ = #[(.int j0), (.int j1), (.int j2), (.int j3), (.int j4), (.int j5)] ∧ Z.Warmed39 U_.vm ∧ U_.heap = h0) (fun _ _ _ _ _ => True) (fun _ U_ o_ V_ => ∃ v_ L_, o_ = .returned v_ ∧ Q_own_law Z j0 j1 j2 j3 j4 j5 u0 u1 u2 u3 u4 u5 u6 u7 G1 h0 n0 v_ V_.heap L_ ∧ FrameEnd U_ o_ V_ L_ room_1.cells room_1.slots) := by
  refine MetFree.of_bodySF (plainFor_of_name own_pn_own_law) hisR ?_
  intro p e s m args below meth c s₁ Bd hml0 hP hK
  obtain ⟨rfl, hZ, hh⟩ := hP
  have hx := Bd.exec
  have hby := Bd.bytes
  have hml : c.maxLocals = 11 := hml0
  have hown : s.vm.findClass "com/example/interfold/interfold/slice/TokenSet141PinLaw" = some m.cls := findClass_of_methodNamed Bd.named
  have hnm := (name_of_methodNamed Bd.named Bd.method).1
  have X0 : Stand p l e room_1 s m #[(.int j0), (.int j1), (.int j2), (.int j3), (.int j4), (.int j5)] below meth c s₁ [] 0 0 := Stand.of_body Bd
  have e0 : s₁.heap = h0 := by rw [← hh, Bd.state]; rfl
  have N0 := Fr.nil n0
  have K0 : Keep h0 h0 [] := Keep.refl _ _
  have r0 : GoTo p.tables e below s₁ (own_F_own_law m j0 j1 j2 j3 j4 j5) s₁ (mkF m 0 #[.val (.int j0), .val (.int j1), .val (.int j2), .val (.int j3), .val (.int j4), .val (.int j5), .unset, .unset, .unset, .unset, .unset] []) := fun tt_ kk_ => castTop (own_ef_own_law m j0 j1 j2 j3 j4 j5) kk_
  obtain ⟨T1, h1, X1, e1, E1, A1, D1, -, st1⟩ := newO X0 hx hZ hown (hw _ (List.mem_of_getElem? (i := 0) rfl)) (hw _ (List.mem_of_getElem? (i := 1) rfl)) (hw _ (List.mem_of_getElem? (i := 2) rfl)) e0 (g := (mkF m 0 #[.val (.int j0), .val (.int j1), .val (.int j2), .val (.int j3), .val (.int j4), .val (.int j5), .unset, .unset, .unset, .unset, .unset] [])) rfl (hb hby at_0) (by decide) (by decide)
  obtain ⟨b1, gg1⟩ : ∃ z, z = h0.size := ⟨_, rfl⟩
  rw [← gg1] at A1 D1 st1
  have g2 : n0 ≤ b1 := Nat.le_trans (Nat.le_trans (own_le O0) K0.1) (Nat.le_of_eq gg1.symm)
  have b3 : h0.size ≤ b1 := Nat.le_trans K0.1 (Nat.le_of_eq gg1.symm)
  have K4 : Keep h0 h1 [] := K0.ext E1
  obtain ⟨_, _, ⟨T5, L5, k5, n5⟩, -, X5, ⟨Lc5, hQ5, l5, y5, z5⟩, st5⟩ := X1.specialBack hx (y := (⟨"com/example/interfold/interfold/slice/Token", "<init>", "()V"⟩ : MethodName)) rfl hown (mvT hZ (hw _ (List.mem_of_getElem? (i := 3) rfl))) (mvT hZ (hw _ (List.mem_of_getElem? (i := 4) rfl))) (mvT hZ (hw _ (List.mem_of_getElem? (i := 5) rfl))) (by decide) (backOf (W := 1) (own_tin l Z a0 hw [] (b1) h1 n0 (O0.keep K4 all0)) hZ (hw _ (List.mem_of_getElem? (i := 5) rfl)) (hw _ (List.mem_of_getElem? (i := 2) rfl)) (by decide) (by decide)) (g := (mkF m 4 #[.val (.int j0), .val (.int j1), .val (.int j2), .val (.int j3), .val (.int j4), .val (.int j5), .unset, .unset, .unset, .unset, .unset] [(.ref b1), (.ref b1)])) rfl (by rw [hml]; rfl) (Steps.refl _) (a := b1) (argsL := []) (rest := [(.ref b1)]) (lenOf own_pd1 rfl) rfl (by show 2 * 0 + _ ≤ _; exact Nat.le_of_eq rfl) (hb hby at_4) (fun _ _ => ⟨rfl, e1, (by decide : 1 + 0 ≤ _), (by decide : 4 + 0 ≤ _)⟩)
  dsimp only [Pt.U, Pt.locs, Pt.cells, Pt.slots] at X5 l5 y5 z5 st5 hQ5
  subst l5 y5 z5
  obtain ⟨rfl, Nq5, hh5⟩ := hQ5
  have N5 := Fr.app N0 Nq5
  obtain ⟨_, _, ⟨T6, L6, k6, n6⟩, -, X6, ⟨Lc6, hQ6, l6, y6, z6⟩, st6⟩ := Jvm.LawKit.callS X5 hx (y := (⟨"com/example/interfold/interfold/slice/TokenSet141PinLaw", "pick", "(I)Lcom/example/interfold/interfold/slice/Token$Kind;"⟩ : MethodName)) hown (mvT hZ (hw _ (List.mem_of_getElem? (i := 9) rfl))) (mvT hZ (hw _ (List.mem_of_getElem? (i := 10) rfl))) (mvT hZ (hw _ (List.mem_of_getElem? (i := 11) rfl))) (mvT hZ (hw _ (List.mem_of_getElem? (i := 12) rfl))) (by decide) (backOf (W := 0) (own_pick l Z a0 hw [] (((j0.toUInt32 >>> ((4 : Int32) &&& 31).toUInt32).toInt32)) (u0) (u1) (u2) (u3) (u4) (u5) (u6) (u7) h1 n0 (O0.keep K4 all0) (hp0) (hp1) (hp2) (hp3) (hp4) (hp5) (hp6) (hp7)) hZ (hw _ (List.mem_of_getElem? (i := 12) rfl)) (hw _ (List.mem_of_getElem? (i := 11) rfl)) (by decide) (by decide)) (g := (mkF m 12 #[.val (.int j0), .val (.int j1), .val (.int j2), .val (.int j3), .val (.int j4), .val (.int j5), .val (.ref b1), .unset, .unset, .unset, .unset] [(.int ((j0.toUInt32 >>> ((4 : Int32) &&& 31).toUInt32).toInt32))])) rfl (by rw [hml]; rfl) (argsL := [(.int ((j0.toUInt32 >>> ((4 : Int32) &&& 31).toUInt32).toInt32))]) (rest := []) (lenOf own_pd2 rfl) rfl (by show 2 * 0 + _ ≤ _; exact Nat.le_of_eq rfl) (hb hby at_12) (fun _ _ => ⟨rfl, hh5, (by decide : 1 + 0 ≤ _), (by decide : 4 + 0 ≤ _)⟩)
  dsimp only [Pt.U, Pt.locs, Pt.cells, Pt.slots] at X6 l6 y6 z6 st6 hQ6
  subst l6 y6 z6
  obtain ⟨kd_6, rfl, Nq6, hh6⟩ := hQ6
  have N6 := Fr.app N5 Nq6
  obtain ⟨_, _, ⟨T7, L7, k7, n7⟩, -, X7, ⟨Lc7, hQ7, l7, y7, z7⟩, st7⟩ := Jvm.LawKit.callS X6 hx (y := (⟨"com/example/interfold/interfold/slice/TokenSet141PinLaw", "draw", "(II)Ljava/lang/String;"⟩ : MethodName)) hown (mvT hZ (hw _ (List.mem_of_getElem? (i := 16) rfl))) (mvT hZ (hw _ (List.mem_of_getElem? (i := 17) rfl))) (mvT hZ (hw _ (List.mem_of_getElem? (i := 11) rfl))) (mvT hZ (hw _ (List.mem_of_getElem? (i := 18) rfl))) (by decide) (backOf (W := 0) (own_draw l Z a0 hw [] (((j3.toUInt32 >>> ((16 : Int32) &&& 31).toUInt32).toInt32)) ((j0 &&& (256 : Int32))) (G1) h1 n0 (O0.keep K4 all0) (hp8) (hG1)) hZ (hw _ (List.mem_of_getElem? (i := 18) rfl)) (hw _ (List.mem_of_getElem? (i := 11) rfl)) (by decide) (by decide)) (g := (mkF m 26 #[.val (.int j0), .val (.int j1), .val (.int j2), .val (.int j3), .val (.int j4), .val (.int j5), .val (.ref b1), .val (.ref kd_6), .unset, .unset, .unset] [(.int (j0 &&& (256 : Int32))), (.int ((j3.toUInt32 >>> ((16 : Int32) &&& 31).toUInt32).toInt32))])) rfl (by rw [hml]; rfl) (argsL := [(.int ((j3.toUInt32 >>> ((16 : Int32) &&& 31).toUInt32).toInt32)), (.int (j0 &&& (256 : Int32)))]) (rest := []) (lenOf own_pd3 rfl) rfl (by show 2 * 0 + _ ≤ _; exact Nat.le_of_eq rfl) (hb hby at_26) (fun _ _ => ⟨rfl, hh6, (by decide : 1 + 3 ≤ _), (by decide : 4 + 8 ≤ _)⟩)
  dsimp only [Pt.U, Pt.locs, Pt.cells, Pt.slots] at X7 l7 y7 z7 st7 hQ7
  subst l7 y7 z7
  obtain ⟨sv_7, rfl, Nq7, Kq7, po7_0⟩ := hQ7
  have N7 := Fr.app N6 Nq7
  have K8 : Keep h0 T7.heap [] := K4.trans Kq7 all0
  obtain ⟨_, _, ⟨T9, L9, k9, n9⟩, -, X9, ⟨Lc9, hQ9, l9, y9, z9⟩, st9⟩ := Jvm.LawKit.callS X7 hx (y := (⟨"com/example/interfold/interfold/slice/TokenSet141PinLaw", "pick", "(I)Lcom/example/interfold/interfold/slice/Token$Kind;"⟩ : MethodName)) hown (mvT hZ (hw _ (List.mem_of_getElem? (i := 9) rfl))) (mvT hZ (hw _ (List.mem_of_getElem? (i := 10) rfl))) (mvT hZ (hw _ (List.mem_of_getElem? (i := 11) rfl))) (mvT hZ (hw _ (List.mem_of_getElem? (i := 12) rfl))) (by decide) (backOf (W := 0) (own_pick l Z a0 hw [] (j0) (u0) (u1) (u2) (u3) (u4) (u5) (u6) (u7) T7.heap n0 (O0.keep K8 all0) (hp0) (hp1) (hp2) (hp3) (hp4) (hp5) (hp6) (hp7)) hZ (hw _ (List.mem_of_getElem? (i := 12) rfl)) (hw _ (List.mem_of_getElem? (i := 11) rfl)) (by decide) (by decide)) (g := (mkF m 32 #[.val (.int j0), .val (.int j1), .val (.int j2), .val (.int j3), .val (.int j4), .val (.int j5), .val (.ref b1), .val (.ref kd_6), .val sv_7, .unset, .unset] [(.int j0)])) rfl (by rw [hml]; rfl) (argsL := [(.int j0)]) (rest := []) (lenOf own_pd2 rfl) rfl (by show 2 * 0 + _ ≤ _; exact Nat.le_of_eq rfl) (hb hby at_32) (fun _ _ => ⟨rfl, rfl, (by decide : 4 + 0 ≤ _), (by decide : 12 + 0 ≤ _)⟩)
  dsimp only [Pt.U, Pt.locs, Pt.cells, Pt.slots] at X9 l9 y9 z9 st9 hQ9
  subst l9 y9 z9
  obtain ⟨kd_9, rfl, Nq9, hh9⟩ := hQ9
  have N9 := Fr.app N7 Nq9
  obtain ⟨_, _, ⟨T10, L10, k10, n10⟩, -, X10, ⟨Lc10, hQ10, l10, y10, z10⟩, st10⟩ := Jvm.LawKit.callS X9 hx (y := (⟨"com/example/interfold/interfold/slice/TokenSet141PinLaw", "draw", "(II)Ljava/lang/String;"⟩ : MethodName)) hown (mvT hZ (hw _ (List.mem_of_getElem? (i := 16) rfl))) (mvT hZ (hw _ (List.mem_of_getElem? (i := 17) rfl))) (mvT hZ (hw _ (List.mem_of_getElem? (i := 11) rfl))) (mvT hZ (hw _ (List.mem_of_getElem? (i := 18) rfl))) (by decide) (backOf (W := 0) (own_draw l Z a0 hw [] (j3) ((j0 &&& (8 : Int32))) (G1) T7.heap n0 (O0.keep K8 all0) (hp8) (hG1)) hZ (hw _ (List.mem_of_getElem? (i := 18) rfl)) (hw _ (List.mem_of_getElem? (i := 11) rfl)) (by decide) (by decide)) (g := (mkF m 42 #[.val (.int j0), .val (.int j1), .val (.int j2), .val (.int j3), .val (.int j4), .val (.int j5), .val (.ref b1), .val (.ref kd_6), .val sv_7, .val (.ref kd_9), .unset] [(.int (j0 &&& (8 : Int32))), (.int j3)])) rfl (by rw [hml]; rfl) (argsL := [(.int j3), (.int (j0 &&& (8 : Int32)))]) (rest := []) (lenOf own_pd3 rfl) rfl (by show 2 * 0 + _ ≤ _; exact Nat.le_of_eq rfl) (hb hby at_42) (fun _ _ => ⟨rfl, hh9, (by decide : 4 + 3 ≤ _), (by decide : 12 + 8 ≤ _)⟩)
  dsimp only [Pt.U, Pt.locs, Pt.cells, Pt.slots] at X10 l10 y10 z10 st10 hQ10
  subst l10 y10 z10
  obtain ⟨sv_10, rfl, Nq10, Kq10, po10_0⟩ := hQ10
  have N10 := Fr.app N9 Nq10
  have K11 : Keep h0 T10.heap [] := K8.trans Kq10 all0
  have f12 : Exa Z T10.heap b1 "com/example/interfold/interfold/slice/Token" := ((A1.keep Kq7).keep Kq10)
  have f13 : Fld Z T10.heap b1 "com/example/interfold/interfold/slice/Token" "kind" "Lcom/example/interfold/interfold/slice/Token$Kind;" .null := (((D1 (Or.inl (hw _ (List.mem_of_getElem? (i := 53) rfl))) (ty := (.object "com/example/interfold/interfold/slice/Token$Kind")) (by decide)).keep Kq7 nin0).keep Kq10 nin0)
  have f14 : Fld Z T10.heap b1 "com/example/interfold/interfold/slice/Token" "start" "I" (.int (0 : Int32)) := (((D1 (Or.inl (hw _ (List.mem_of_getElem? (i := 55) rfl))) (ty := .int) (by decide)).keep Kq7 nin0).keep Kq10 nin0)
  have f15 : Fld Z T10.heap b1 "com/example/interfold/interfold/slice/Token" "end" "I" (.int (0 : Int32)) := (((D1 (Or.inl (hw _ (List.mem_of_getElem? (i := 57) rfl))) (ty := .int) (by decide)).keep Kq7 nin0).keep Kq10 nin0)
  have f16 : Fld Z T10.heap b1 "com/example/interfold/interfold/slice/Token" "value" "Ljava/lang/String;" .null := (((D1 (Or.inl (hw _ (List.mem_of_getElem? (i := 59) rfl))) (ty := (.object "java/lang/String")) (by decide)).keep Kq7 nin0).keep Kq10 nin0)
  obtain ⟨cq17, kq17, qa17, qb17, qc17⟩ := isOf hZ rfl f12
  obtain ⟨_, _, ⟨T17, L17, k17, n17⟩, -, X17, ⟨Lc17, hQ17, l17, y17, z17⟩, st17⟩ := X10.virtualBack hx (y := (⟨"com/example/interfold/interfold/slice/Token", "set", "(Lcom/example/interfold/interfold/slice/Token$Kind;IILjava/lang/String;)V"⟩ : MethodName)) (z := (⟨"com/example/interfold/interfold/slice/Token", "set", "(Lcom/example/interfold/interfold/slice/Token$Kind;IILjava/lang/String;)V"⟩ : MethodName)) hown (mvT hZ (hw _ (List.mem_of_getElem? (i := 47) rfl))) (mvT hZ (hw _ (List.mem_of_getElem? (i := 48) rfl))) (notFace_of_selects (args := #[]) (mvT hZ (hw _ (List.mem_of_getElem? (i := 50) rfl)))) (mvT hZ (hw _ (List.mem_of_getElem? (i := 50) rfl))) (mvT hZ (hw _ (List.mem_of_getElem? (i := 49) rfl))) (by decide) (backOf (W := 0) (own_set l Z a0 hw [] (b1) (kd_6) (j4) (j5) (sv_7) (.null) ((.int (0 : Int32))) ((.int (0 : Int32))) (.null) T10.heap n0 (O0.keep K11 all0) (po7_0) (f12) (g2) (f13) (f14) (f15) (f16)) hZ (hw _ (List.mem_of_getElem? (i := 51) rfl)) (hw _ (List.mem_of_getElem? (i := 2) rfl)) (by decide) (by decide)) qa17 qc17 (g := (mkF m 57 #[.val (.int j0), .val (.int j1), .val (.int j2), .val (.int j3), .val (.int j4), .val (.int j5), .val (.ref b1), .val (.ref kd_6), .val sv_7, .val (.ref kd_9), .val sv_10] [sv_7, (.int j5), (.int j4), (.ref kd_6), (.ref b1)])) rfl (by rw [hml]; rfl) (Steps.refl _) (argsL := [(.ref kd_6), (.int j4), (.int j5), sv_7]) (rest := []) (lenOf own_pd4 rfl) rfl (by show 2 * 0 + _ ≤ _; exact Nat.le_of_eq rfl) (hb hby at_57) (fun _ _ => ⟨rfl, rfl, (by decide : 7 + 0 ≤ _), (by decide : 20 + 0 ≤ _)⟩)
  dsimp only [Pt.U, Pt.locs, Pt.cells, Pt.slots] at X17 l17 y17 z17 st17 hQ17
  subst l17 y17 z17
  obtain ⟨rfl, Nq17, Kq17, po17_0, po17_1, po17_2, po17_3, po17_4⟩ := hQ17
  have N17 := Fr.app N10 Nq17
  have K18 : Keep h0 T17.heap [] := K11.trans Kq17 (allS (Or.inr b3) all0)
  obtain ⟨cq19, kq19, qa19, qb19, qc19⟩ := isOf hZ rfl po17_0
  obtain ⟨_, _, ⟨T19, L19, k19, n19⟩, -, X19, ⟨Lc19, hQ19, l19, y19, z19⟩, st19⟩ := X17.virtualBack hx (y := (⟨"com/example/interfold/interfold/slice/Token", "set", "(Lcom/example/interfold/interfold/slice/Token$Kind;IILjava/lang/String;)V"⟩ : MethodName)) (z := (⟨"com/example/interfold/interfold/slice/Token", "set", "(Lcom/example/interfold/interfold/slice/Token$Kind;IILjava/lang/String;)V"⟩ : MethodName)) hown (mvT hZ (hw _ (List.mem_of_getElem? (i := 47) rfl))) (mvT hZ (hw _ (List.mem_of_getElem? (i := 48) rfl))) (notFace_of_selects (args := #[]) (mvT hZ (hw _ (List.mem_of_getElem? (i := 50) rfl)))) (mvT hZ (hw _ (List.mem_of_getElem? (i := 50) rfl))) (mvT hZ (hw _ (List.mem_of_getElem? (i := 49) rfl))) (by decide) (backOf (W := 0) (own_set l Z a0 hw [] (b1) (kd_9) (j1) (j2) (sv_10) ((.ref kd_6)) ((.int j4)) ((.int j5)) (sv_7) T17.heap n0 (O0.keep K18 all0) (po10_0) (po17_0) (g2) (po17_1) (po17_2) (po17_3) (po17_4)) hZ (hw _ (List.mem_of_getElem? (i := 51) rfl)) (hw _ (List.mem_of_getElem? (i := 2) rfl)) (by decide) (by decide)) qa19 qc19 (g := (mkF m 68 #[.val (.int j0), .val (.int j1), .val (.int j2), .val (.int j3), .val (.int j4), .val (.int j5), .val (.ref b1), .val (.ref kd_6), .val sv_7, .val (.ref kd_9), .val sv_10] [sv_10, (.int j2), (.int j1), (.ref kd_9), (.ref b1)])) rfl (by rw [hml]; rfl) (Steps.refl _) (argsL := [(.ref kd_9), (.int j1), (.int j2), sv_10]) (rest := []) (lenOf own_pd4 rfl) rfl (by show 2 * 0 + _ ≤ _; exact Nat.le_of_eq rfl) (hb hby at_68) (fun _ _ => ⟨rfl, rfl, (by decide : 7 + 0 ≤ _), (by decide : 20 + 0 ≤ _)⟩)
  dsimp only [Pt.U, Pt.locs, Pt.cells, Pt.slots] at X19 l19 y19 z19 st19 hQ19
  subst l19 y19 z19
  obtain ⟨rfl, Nq19, Kq19, po19_0, po19_1, po19_2, po19_3, po19_4⟩ := hQ19
  have N19 := Fr.app N17 Nq19
  have K20 : Keep h0 T19.heap [] := K18.trans Kq19 (allS (Or.inr b3) all0)
  obtain ⟨cq21, kq21, qa21, qb21, qc21⟩ := isOf hZ rfl po19_0
  obtain ⟨_, _, ⟨T21, L21, k21, n21⟩, -, X21, ⟨Lc21, hQ21, l21, y21, z21⟩, st21⟩ := X19.virtualBack hx (y := (⟨"com/example/interfold/interfold/slice/Token", "kind", "()Lcom/example/interfold/interfold/slice/Token$Kind;"⟩ : MethodName)) (z := (⟨"com/example/interfold/interfold/slice/Token", "kind", "()Lcom/example/interfold/interfold/slice/Token$Kind;"⟩ : MethodName)) hown (mvT hZ (hw _ (List.mem_of_getElem? (i := 60) rfl))) (mvT hZ (hw _ (List.mem_of_getElem? (i := 61) rfl))) (notFace_of_selects (args := #[]) (mvT hZ (hw _ (List.mem_of_getElem? (i := 63) rfl)))) (mvT hZ (hw _ (List.mem_of_getElem? (i := 63) rfl))) (mvT hZ (hw _ (List.mem_of_getElem? (i := 62) rfl))) (by decide) (backOf (W := 0) (own_kind l Z a0 hw [] (b1) (kd_9) T19.heap n0 (O0.keep K20 all0) (po19_1)) hZ (hw _ (List.mem_of_getElem? (i := 64) rfl)) (hw _ (List.mem_of_getElem? (i := 2) rfl)) (by decide) (by decide)) qa21 qc21 (g := (mkF m 73 #[.val (.int j0), .val (.int j1), .val (.int j2), .val (.int j3), .val (.int j4), .val (.int j5), .val (.ref b1), .val (.ref kd_6), .val sv_7, .val (.ref kd_9), .val sv_10] [(.ref b1)])) rfl (by rw [hml]; rfl) (Steps.refl _) (argsL := []) (rest := []) (lenOf own_pd5 rfl) rfl (by show 2 * 0 + _ ≤ _; exact Nat.le_of_eq rfl) (hb hby at_73) (fun _ _ => ⟨rfl, rfl, (by decide : 7 + 0 ≤ _), (by decide : 20 + 0 ≤ _)⟩)
  dsimp only [Pt.U, Pt.locs, Pt.cells, Pt.slots] at X21 l21 y21 z21 st21 hQ21
  subst l21 y21 z21
  obtain ⟨rfl, Nq21, hh21⟩ := hQ21
  have N21 := Fr.app N19 Nq21
  obtain ⟨cq22, kq22, qa22, qb22, qc22⟩ := isOf hZ hh21 po19_0
  obtain ⟨_, _, ⟨T22, L22, k22, n22⟩, -, X22, ⟨Lc22, hQ22, l22, y22, z22⟩, st22⟩ := X21.virtualBack hx (y := (⟨"com/example/interfold/interfold/slice/Token", "start", "()I"⟩ : MethodName)) (z := (⟨"com/example/interfold/interfold/slice/Token", "start", "()I"⟩ : MethodName)) hown (mvT hZ (hw _ (List.mem_of_getElem? (i := 65) rfl))) (mvT hZ (hw _ (List.mem_of_getElem? (i := 66) rfl))) (notFace_of_selects (args := #[]) (mvT hZ (hw _ (List.mem_of_getElem? (i := 68) rfl)))) (mvT hZ (hw _ (List.mem_of_getElem? (i := 68) rfl))) (mvT hZ (hw _ (List.mem_of_getElem? (i := 67) rfl))) (by decide) (backOf (W := 0) (own_start l Z a0 hw [] (b1) (j1) T19.heap n0 (O0.keep K20 all0) (po19_2)) hZ (hw _ (List.mem_of_getElem? (i := 69) rfl)) (hw _ (List.mem_of_getElem? (i := 2) rfl)) (by decide) (by decide)) qa22 qc22 (g := (mkF m 83 #[.val (.int j0), .val (.int j1), .val (.int j2), .val (.int j3), .val (.int j4), .val (.int j5), .val (.ref b1), .val (.ref kd_6), .val sv_7, .val (.ref kd_9), .val sv_10] [(.ref b1)])) rfl (by rw [hml]; rfl) (Steps.refl _) (argsL := []) (rest := []) (lenOf own_pd6 rfl) rfl (by show 2 * 0 + _ ≤ _; exact Nat.le_of_eq rfl) (hb hby at_83) (fun _ _ => ⟨rfl, hh21, (by decide : 7 + 0 ≤ _), (by decide : 20 + 0 ≤ _)⟩)
  dsimp only [Pt.U, Pt.locs, Pt.cells, Pt.slots] at X22 l22 y22 z22 st22 hQ22
  subst l22 y22 z22
  obtain ⟨rfl, Nq22, hh22⟩ := hQ22
  have N22 := Fr.app N21 Nq22
  obtain ⟨cq23, kq23, qa23, qb23, qc23⟩ := isOf hZ hh22 po19_0
  obtain ⟨_, _, ⟨T23, L23, k23, n23⟩, -, X23, ⟨Lc23, hQ23, l23, y23, z23⟩, st23⟩ := X22.virtualBack hx (y := (⟨"com/example/interfold/interfold/slice/Token", "end", "()I"⟩ : MethodName)) (z := (⟨"com/example/interfold/interfold/slice/Token", "end", "()I"⟩ : MethodName)) hown (mvT hZ (hw _ (List.mem_of_getElem? (i := 70) rfl))) (mvT hZ (hw _ (List.mem_of_getElem? (i := 71) rfl))) (notFace_of_selects (args := #[]) (mvT hZ (hw _ (List.mem_of_getElem? (i := 73) rfl)))) (mvT hZ (hw _ (List.mem_of_getElem? (i := 73) rfl))) (mvT hZ (hw _ (List.mem_of_getElem? (i := 72) rfl))) (by decide) (backOf (W := 0) (own_endd l Z a0 hw [] (b1) (j2) T19.heap n0 (O0.keep K20 all0) (po19_3)) hZ (hw _ (List.mem_of_getElem? (i := 74) rfl)) (hw _ (List.mem_of_getElem? (i := 2) rfl)) (by decide) (by decide)) qa23 qc23 (g := (mkF m 92 #[.val (.int j0), .val (.int j1), .val (.int j2), .val (.int j3), .val (.int j4), .val (.int j5), .val (.ref b1), .val (.ref kd_6), .val sv_7, .val (.ref kd_9), .val sv_10] [(.ref b1)])) rfl (by rw [hml]; rfl) (Steps.refl _) (argsL := []) (rest := []) (lenOf own_pd6 rfl) rfl (by show 2 * 0 + _ ≤ _; exact Nat.le_of_eq rfl) (hb hby at_92) (fun _ _ => ⟨rfl, hh22, (by decide : 7 + 0 ≤ _), (by decide : 20 + 0 ≤ _)⟩)
  dsimp only [Pt.U, Pt.locs, Pt.cells, Pt.slots] at X23 l23 y23 z23 st23 hQ23
  subst l23 y23 z23
  obtain ⟨rfl, Nq23, hh23⟩ := hQ23
  have N23 := Fr.app N22 Nq23
  obtain ⟨cq24, kq24, qa24, qb24, qc24⟩ := isOf hZ hh23 po19_0
  obtain ⟨_, _, ⟨T24, L24, k24, n24⟩, -, X24, ⟨Lc24, hQ24, l24, y24, z24⟩, st24⟩ := X23.virtualBack hx (y := (⟨"com/example/interfold/interfold/slice/Token", "value", "()Ljava/lang/String;"⟩ : MethodName)) (z := (⟨"com/example/interfold/interfold/slice/Token", "value", "()Ljava/lang/String;"⟩ : MethodName)) hown (mvT hZ (hw _ (List.mem_of_getElem? (i := 75) rfl))) (mvT hZ (hw _ (List.mem_of_getElem? (i := 76) rfl))) (notFace_of_selects (args := #[]) (mvT hZ (hw _ (List.mem_of_getElem? (i := 78) rfl)))) (mvT hZ (hw _ (List.mem_of_getElem? (i := 78) rfl))) (mvT hZ (hw _ (List.mem_of_getElem? (i := 77) rfl))) (by decide) (backOf (W := 0) (own_value l Z a0 hw [] (b1) (sv_10) T19.heap n0 (O0.keep K20 all0) (po10_0) (po19_4)) hZ (hw _ (List.mem_of_getElem? (i := 79) rfl)) (hw _ (List.mem_of_getElem? (i := 2) rfl)) (by decide) (by decide)) qa24 qc24 (g := (mkF m 101 #[.val (.int j0), .val (.int j1), .val (.int j2), .val (.int j3), .val (.int j4), .val (.int j5), .val (.ref b1), .val (.ref kd_6), .val sv_7, .val (.ref kd_9), .val sv_10] [(.ref b1)])) rfl (by rw [hml]; rfl) (Steps.refl _) (argsL := []) (rest := []) (lenOf own_pd7 rfl) rfl (by show 2 * 0 + _ ≤ _; exact Nat.le_of_eq rfl) (hb hby at_101) (fun _ _ => ⟨rfl, hh23, (by decide : 7 + 0 ≤ _), (by decide : 20 + 0 ≤ _)⟩)
  dsimp only [Pt.U, Pt.locs, Pt.cells, Pt.slots] at X24 l24 y24 z24 st24 hQ24
  subst l24 y24 z24
  obtain ⟨rfl, Nq24, hh24⟩ := hQ24
  have N24 := Fr.app N23 Nq24
  obtain ⟨fs, hr, hrun, hended, hW, hsame⟩ := X24.leave (v := some (.int (nar .boolean (1 : Int32)))) (fun h => by rw [Bd.returns] at h; cases h)
  refine ⟨_, _, r0 _ ?_, hrun, hended, _, _, rfl, ?_, ⟨_, rfl⟩, hW, hsame.mono (by decide) (by decide)⟩
  · show Steps p.tables e below (s₁.setTop (mkF m 0 #[.val (.int j0), .val (.int j1), .val (.int j2), .val (.int j3), .val (.int j4), .val (.int j5), .unset, .unset, .unset, .unset, .unset] [])) _
    refine st1 _ ?_
    show Steps p.tables e below (T1.setTop (mkF m 3 #[.val (.int j0), .val (.int j1), .val (.int j2), .val (.int j3), .val (.int j4), .val (.int j5), .unset, .unset, .unset, .unset, .unset] [(.ref b1)])) _
    refine XS.dup X1.here hx rfl (hb hby at_3) rfl rfl ?_
    show Steps p.tables e below (T1.setTop (mkF m 4 #[.val (.int j0), .val (.int j1), .val (.int j2), .val (.int j3), .val (.int j4), .val (.int j5), .unset, .unset, .unset, .unset, .unset] [(.ref b1), (.ref b1)])) _
    refine st5.trans ?_
    show Steps p.tables e below (T5.setTop (mkF m 7 #[.val (.int j0), .val (.int j1), .val (.int j2), .val (.int j3), .val (.int j4), .val (.int j5), .unset, .unset, .unset, .unset, .unset] [(.ref b1)])) _
    refine XS.astore X5.here hx rfl (hb hby at_7) rfl rfl (l' := #[.val (.int j0), .val (.int j1), .val (.int j2), .val (.int j3), .val (.int j4), .val (.int j5), .val (.ref b1), .unset, .unset, .unset, .unset]) rfl ?_
    show Steps p.tables e below (T5.setTop (mkF m 9 #[.val (.int j0), .val (.int j1), .val (.int j2), .val (.int j3), .val (.int j4), .val (.int j5), .val (.ref b1), .unset, .unset, .unset, .unset] [])) _
    refine XS.iloadN X5.here hx rfl (hb hby at_9) rfl ?_
    show Steps p.tables e below (T5.setTop (mkF m 10 #[.val (.int j0), .val (.int j1), .val (.int j2), .val (.int j3), .val (.int j4), .val (.int j5), .val (.ref b1), .unset, .unset, .unset, .unset] [(.int j0)])) _
    refine XS.iconst X5.here hx rfl (hb hby at_10) ?_
    show Steps p.tables e below (T5.setTop (mkF m 11 #[.val (.int j0), .val (.int j1), .val (.int j2), .val (.int j3), .val (.int j4), .val (.int j5), .val (.ref b1), .unset, .unset, .unset, .unset] [(.int (4 : Int32)), (.int j0)])) _
    refine XS.iushr X5.here hx rfl (hb hby at_11) rfl ?_
    show Steps p.tables e below (T5.setTop (mkF m 12 #[.val (.int j0), .val (.int j1), .val (.int j2), .val (.int j3), .val (.int j4), .val (.int j5), .val (.ref b1), .unset, .unset, .unset, .unset] [(.int ((j0.toUInt32 >>> ((4 : Int32) &&& 31).toUInt32).toInt32))])) _
    refine st6 _ ?_
    show Steps p.tables e below (T6.setTop (mkF m 15 #[.val (.int j0), .val (.int j1), .val (.int j2), .val (.int j3), .val (.int j4), .val (.int j5), .val (.ref b1), .unset, .unset, .unset, .unset] [(.ref kd_6)])) _
    refine XS.astore X6.here hx rfl (hb hby at_15) rfl rfl (l' := #[.val (.int j0), .val (.int j1), .val (.int j2), .val (.int j3), .val (.int j4), .val (.int j5), .val (.ref b1), .val (.ref kd_6), .unset, .unset, .unset]) rfl ?_
    show Steps p.tables e below (T6.setTop (mkF m 17 #[.val (.int j0), .val (.int j1), .val (.int j2), .val (.int j3), .val (.int j4), .val (.int j5), .val (.ref b1), .val (.ref kd_6), .unset, .unset, .unset] [])) _
    refine XS.iloadN X6.here hx rfl (hb hby at_17) rfl ?_
    show Steps p.tables e below (T6.setTop (mkF m 18 #[.val (.int j0), .val (.int j1), .val (.int j2), .val (.int j3), .val (.int j4), .val (.int j5), .val (.ref b1), .val (.ref kd_6), .unset, .unset, .unset] [(.int j3)])) _
    refine XS.bipush X6.here hx rfl (hb hby at_18) ?_
    show Steps p.tables e below (T6.setTop (mkF m 20 #[.val (.int j0), .val (.int j1), .val (.int j2), .val (.int j3), .val (.int j4), .val (.int j5), .val (.ref b1), .val (.ref kd_6), .unset, .unset, .unset] [(.int (16 : Int32)), (.int j3)])) _
    refine XS.iushr X6.here hx rfl (hb hby at_20) rfl ?_
    show Steps p.tables e below (T6.setTop (mkF m 21 #[.val (.int j0), .val (.int j1), .val (.int j2), .val (.int j3), .val (.int j4), .val (.int j5), .val (.ref b1), .val (.ref kd_6), .unset, .unset, .unset] [(.int ((j3.toUInt32 >>> ((16 : Int32) &&& 31).toUInt32).toInt32))])) _
    refine XS.iloadN X6.here hx rfl (hb hby at_21) rfl ?_
    show Steps p.tables e below (T6.setTop (mkF m 22 #[.val (.int j0), .val (.int j1), .val (.int j2), .val (.int j3), .val (.int j4), .val (.int j5), .val (.ref b1), .val (.ref kd_6), .unset, .unset, .unset] [(.int j0), (.int ((j3.toUInt32 >>> ((16 : Int32) &&& 31).toUInt32).toInt32))])) _
    refine XS.sipush X6.here hx rfl (hb hby at_22) ?_
    show Steps p.tables e below (T6.setTop (mkF m 25 #[.val (.int j0), .val (.int j1), .val (.int j2), .val (.int j3), .val (.int j4), .val (.int j5), .val (.ref b1), .val (.ref kd_6), .unset, .unset, .unset] [(.int (256 : Int32)), (.int j0), (.int ((j3.toUInt32 >>> ((16 : Int32) &&& 31).toUInt32).toInt32))])) _
    refine XS.iand X6.here hx rfl (hb hby at_25) rfl ?_
    show Steps p.tables e below (T6.setTop (mkF m 26 #[.val (.int j0), .val (.int j1), .val (.int j2), .val (.int j3), .val (.int j4), .val (.int j5), .val (.ref b1), .val (.ref kd_6), .unset, .unset, .unset] [(.int (j0 &&& (256 : Int32))), (.int ((j3.toUInt32 >>> ((16 : Int32) &&& 31).toUInt32).toInt32))])) _
    refine st7 _ ?_
    show Steps p.tables e below (T7.setTop (mkF m 29 #[.val (.int j0), .val (.int j1), .val (.int j2), .val (.int j3), .val (.int j4), .val (.int j5), .val (.ref b1), .val (.ref kd_6), .unset, .unset, .unset] [sv_7])) _
    refine XS.astore X7.here hx rfl (hb hby at_29) rfl po7_0 (l' := #[.val (.int j0), .val (.int j1), .val (.int j2), .val (.int j3), .val (.int j4), .val (.int j5), .val (.ref b1), .val (.ref kd_6), .val sv_7, .unset, .unset]) (XS.store1 rfl (Or.inl rfl) (own_cat po7_0)) ?_
    show Steps p.tables e below (T7.setTop (mkF m 31 #[.val (.int j0), .val (.int j1), .val (.int j2), .val (.int j3), .val (.int j4), .val (.int j5), .val (.ref b1), .val (.ref kd_6), .val sv_7, .unset, .unset] [])) _
    refine XS.iloadN X7.here hx rfl (hb hby at_31) rfl ?_
    show Steps p.tables e below (T7.setTop (mkF m 32 #[.val (.int j0), .val (.int j1), .val (.int j2), .val (.int j3), .val (.int j4), .val (.int j5), .val (.ref b1), .val (.ref kd_6), .val sv_7, .unset, .unset] [(.int j0)])) _
    refine st9 _ ?_
    show Steps p.tables e below (T9.setTop (mkF m 35 #[.val (.int j0), .val (.int j1), .val (.int j2), .val (.int j3), .val (.int j4), .val (.int j5), .val (.ref b1), .val (.ref kd_6), .val sv_7, .unset, .unset] [(.ref kd_9)])) _
    refine XS.astore X9.here hx rfl (hb hby at_35) rfl rfl (l' := #[.val (.int j0), .val (.int j1), .val (.int j2), .val (.int j3), .val (.int j4), .val (.int j5), .val (.ref b1), .val (.ref kd_6), .val sv_7, .val (.ref kd_9), .unset]) rfl ?_
    show Steps p.tables e below (T9.setTop (mkF m 37 #[.val (.int j0), .val (.int j1), .val (.int j2), .val (.int j3), .val (.int j4), .val (.int j5), .val (.ref b1), .val (.ref kd_6), .val sv_7, .val (.ref kd_9), .unset] [])) _
    refine XS.iloadN X9.here hx rfl (hb hby at_37) rfl ?_
    show Steps p.tables e below (T9.setTop (mkF m 38 #[.val (.int j0), .val (.int j1), .val (.int j2), .val (.int j3), .val (.int j4), .val (.int j5), .val (.ref b1), .val (.ref kd_6), .val sv_7, .val (.ref kd_9), .unset] [(.int j3)])) _
    refine XS.iloadN X9.here hx rfl (hb hby at_38) rfl ?_
    show Steps p.tables e below (T9.setTop (mkF m 39 #[.val (.int j0), .val (.int j1), .val (.int j2), .val (.int j3), .val (.int j4), .val (.int j5), .val (.ref b1), .val (.ref kd_6), .val sv_7, .val (.ref kd_9), .unset] [(.int j0), (.int j3)])) _
    refine XS.bipush X9.here hx rfl (hb hby at_39) ?_
    show Steps p.tables e below (T9.setTop (mkF m 41 #[.val (.int j0), .val (.int j1), .val (.int j2), .val (.int j3), .val (.int j4), .val (.int j5), .val (.ref b1), .val (.ref kd_6), .val sv_7, .val (.ref kd_9), .unset] [(.int (8 : Int32)), (.int j0), (.int j3)])) _
    refine XS.iand X9.here hx rfl (hb hby at_41) rfl ?_
    show Steps p.tables e below (T9.setTop (mkF m 42 #[.val (.int j0), .val (.int j1), .val (.int j2), .val (.int j3), .val (.int j4), .val (.int j5), .val (.ref b1), .val (.ref kd_6), .val sv_7, .val (.ref kd_9), .unset] [(.int (j0 &&& (8 : Int32))), (.int j3)])) _
    refine st10 _ ?_
    show Steps p.tables e below (T10.setTop (mkF m 45 #[.val (.int j0), .val (.int j1), .val (.int j2), .val (.int j3), .val (.int j4), .val (.int j5), .val (.ref b1), .val (.ref kd_6), .val sv_7, .val (.ref kd_9), .unset] [sv_10])) _
    refine XS.astore X10.here hx rfl (hb hby at_45) rfl po10_0 (l' := #[.val (.int j0), .val (.int j1), .val (.int j2), .val (.int j3), .val (.int j4), .val (.int j5), .val (.ref b1), .val (.ref kd_6), .val sv_7, .val (.ref kd_9), .val sv_10]) (XS.store1 rfl (Or.inl rfl) (own_cat po10_0)) ?_
    show Steps p.tables e below (T10.setTop (mkF m 47 #[.val (.int j0), .val (.int j1), .val (.int j2), .val (.int j3), .val (.int j4), .val (.int j5), .val (.ref b1), .val (.ref kd_6), .val sv_7, .val (.ref kd_9), .val sv_10] [])) _
    refine XS.aload X10.here hx rfl (hb hby at_47) rfl rfl ?_
    show Steps p.tables e below (T10.setTop (mkF m 49 #[.val (.int j0), .val (.int j1), .val (.int j2), .val (.int j3), .val (.int j4), .val (.int j5), .val (.ref b1), .val (.ref kd_6), .val sv_7, .val (.ref kd_9), .val sv_10] [(.ref b1)])) _
    refine XS.aload X10.here hx rfl (hb hby at_49) rfl rfl ?_
    show Steps p.tables e below (T10.setTop (mkF m 51 #[.val (.int j0), .val (.int j1), .val (.int j2), .val (.int j3), .val (.int j4), .val (.int j5), .val (.ref b1), .val (.ref kd_6), .val sv_7, .val (.ref kd_9), .val sv_10] [(.ref kd_6), (.ref b1)])) _
    refine XS.iload X10.here hx rfl (hb hby at_51) rfl ?_
    show Steps p.tables e below (T10.setTop (mkF m 53 #[.val (.int j0), .val (.int j1), .val (.int j2), .val (.int j3), .val (.int j4), .val (.int j5), .val (.ref b1), .val (.ref kd_6), .val sv_7, .val (.ref kd_9), .val sv_10] [(.int j4), (.ref kd_6), (.ref b1)])) _
    refine XS.iload X10.here hx rfl (hb hby at_53) rfl ?_
    show Steps p.tables e below (T10.setTop (mkF m 55 #[.val (.int j0), .val (.int j1), .val (.int j2), .val (.int j3), .val (.int j4), .val (.int j5), .val (.ref b1), .val (.ref kd_6), .val sv_7, .val (.ref kd_9), .val sv_10] [(.int j5), (.int j4), (.ref kd_6), (.ref b1)])) _
    refine XS.aload X10.here hx rfl (hb hby at_55) rfl po7_0 ?_
    show Steps p.tables e below (T10.setTop (mkF m 57 #[.val (.int j0), .val (.int j1), .val (.int j2), .val (.int j3), .val (.int j4), .val (.int j5), .val (.ref b1), .val (.ref kd_6), .val sv_7, .val (.ref kd_9), .val sv_10] [sv_7, (.int j5), (.int j4), (.ref kd_6), (.ref b1)])) _
    refine st17.trans ?_
    show Steps p.tables e below (T17.setTop (mkF m 60 #[.val (.int j0), .val (.int j1), .val (.int j2), .val (.int j3), .val (.int j4), .val (.int j5), .val (.ref b1), .val (.ref kd_6), .val sv_7, .val (.ref kd_9), .val sv_10] [])) _
    refine XS.aload X17.here hx rfl (hb hby at_60) rfl rfl ?_
    show Steps p.tables e below (T17.setTop (mkF m 62 #[.val (.int j0), .val (.int j1), .val (.int j2), .val (.int j3), .val (.int j4), .val (.int j5), .val (.ref b1), .val (.ref kd_6), .val sv_7, .val (.ref kd_9), .val sv_10] [(.ref b1)])) _
    refine XS.aload X17.here hx rfl (hb hby at_62) rfl rfl ?_
    show Steps p.tables e below (T17.setTop (mkF m 64 #[.val (.int j0), .val (.int j1), .val (.int j2), .val (.int j3), .val (.int j4), .val (.int j5), .val (.ref b1), .val (.ref kd_6), .val sv_7, .val (.ref kd_9), .val sv_10] [(.ref kd_9), (.ref b1)])) _
    refine XS.iloadN X17.here hx rfl (hb hby at_64) rfl ?_
    show Steps p.tables e below (T17.setTop (mkF m 65 #[.val (.int j0), .val (.int j1), .val (.int j2), .val (.int j3), .val (.int j4), .val (.int j5), .val (.ref b1), .val (.ref kd_6), .val sv_7, .val (.ref kd_9), .val sv_10] [(.int j1), (.ref kd_9), (.ref b1)])) _
    refine XS.iloadN X17.here hx rfl (hb hby at_65) rfl ?_
    show Steps p.tables e below (T17.setTop (mkF m 66 #[.val (.int j0), .val (.int j1), .val (.int j2), .val (.int j3), .val (.int j4), .val (.int j5), .val (.ref b1), .val (.ref kd_6), .val sv_7, .val (.ref kd_9), .val sv_10] [(.int j2), (.int j1), (.ref kd_9), (.ref b1)])) _
    refine XS.aload X17.here hx rfl (hb hby at_66) rfl po10_0 ?_
    show Steps p.tables e below (T17.setTop (mkF m 68 #[.val (.int j0), .val (.int j1), .val (.int j2), .val (.int j3), .val (.int j4), .val (.int j5), .val (.ref b1), .val (.ref kd_6), .val sv_7, .val (.ref kd_9), .val sv_10] [sv_10, (.int j2), (.int j1), (.ref kd_9), (.ref b1)])) _
    refine st19.trans ?_
    show Steps p.tables e below (T19.setTop (mkF m 71 #[.val (.int j0), .val (.int j1), .val (.int j2), .val (.int j3), .val (.int j4), .val (.int j5), .val (.ref b1), .val (.ref kd_6), .val sv_7, .val (.ref kd_9), .val sv_10] [])) _
    refine XS.aload X19.here hx rfl (hb hby at_71) rfl rfl ?_
    show Steps p.tables e below (T19.setTop (mkF m 73 #[.val (.int j0), .val (.int j1), .val (.int j2), .val (.int j3), .val (.int j4), .val (.int j5), .val (.ref b1), .val (.ref kd_6), .val sv_7, .val (.ref kd_9), .val sv_10] [(.ref b1)])) _
    refine st21.trans ?_
    show Steps p.tables e below (T21.setTop (mkF m 76 #[.val (.int j0), .val (.int j1), .val (.int j2), .val (.int j3), .val (.int j4), .val (.int j5), .val (.ref b1), .val (.ref kd_6), .val sv_7, .val (.ref kd_9), .val sv_10] [(.ref kd_9)])) _
    refine XS.aload X21.here hx rfl (hb hby at_76) rfl rfl ?_
    show Steps p.tables e below (T21.setTop (mkF m 78 #[.val (.int j0), .val (.int j1), .val (.int j2), .val (.int j3), .val (.int j4), .val (.int j5), .val (.ref b1), .val (.ref kd_6), .val sv_7, .val (.ref kd_9), .val sv_10] [(.ref kd_9), (.ref kd_9)])) _
    refine Jvm.RoadKit.acmp (g := (mkF m 78 #[.val (.int j0), .val (.int j1), .val (.int j2), .val (.int j3), .val (.int j4), .val (.int j5), .val (.ref b1), .val (.ref kd_6), .val sv_7, .val (.ref kd_9), .val sv_10] [(.ref kd_9), (.ref kd_9)])) X21 hx rfl rfl rfl (pc0 := 78) (pc' := 81) (same := true) rfl (hb hby at_78) rfl (decide_eq_true (congrArg Value.ref rfl)) (by decide) (by decide) ?_
    show Steps p.tables e below (T21.setTop (mkF m 81 #[.val (.int j0), .val (.int j1), .val (.int j2), .val (.int j3), .val (.int j4), .val (.int j5), .val (.ref b1), .val (.ref kd_6), .val sv_7, .val (.ref kd_9), .val sv_10] [])) _
    refine XS.aload X21.here hx rfl (hb hby at_81) rfl rfl ?_
    show Steps p.tables e below (T21.setTop (mkF m 83 #[.val (.int j0), .val (.int j1), .val (.int j2), .val (.int j3), .val (.int j4), .val (.int j5), .val (.ref b1), .val (.ref kd_6), .val sv_7, .val (.ref kd_9), .val sv_10] [(.ref b1)])) _
    refine st22.trans ?_
    show Steps p.tables e below (T22.setTop (mkF m 86 #[.val (.int j0), .val (.int j1), .val (.int j2), .val (.int j3), .val (.int j4), .val (.int j5), .val (.ref b1), .val (.ref kd_6), .val sv_7, .val (.ref kd_9), .val sv_10] [(.int j1)])) _
    refine XS.iloadN X22.here hx rfl (hb hby at_86) rfl ?_
    show Steps p.tables e below (T22.setTop (mkF m 87 #[.val (.int j0), .val (.int j1), .val (.int j2), .val (.int j3), .val (.int j4), .val (.int j5), .val (.ref b1), .val (.ref kd_6), .val sv_7, .val (.ref kd_9), .val sv_10] [(.int j1), (.int j1)])) _
    refine XS.icmpNo X22.here hx rfl (hb hby at_87) rfl (teq rfl).2 ?_
    show Steps p.tables e below (T22.setTop (mkF m 90 #[.val (.int j0), .val (.int j1), .val (.int j2), .val (.int j3), .val (.int j4), .val (.int j5), .val (.ref b1), .val (.ref kd_6), .val sv_7, .val (.ref kd_9), .val sv_10] [])) _
    refine XS.aload X22.here hx rfl (hb hby at_90) rfl rfl ?_
    show Steps p.tables e below (T22.setTop (mkF m 92 #[.val (.int j0), .val (.int j1), .val (.int j2), .val (.int j3), .val (.int j4), .val (.int j5), .val (.ref b1), .val (.ref kd_6), .val sv_7, .val (.ref kd_9), .val sv_10] [(.ref b1)])) _
    refine st23.trans ?_
    show Steps p.tables e below (T23.setTop (mkF m 95 #[.val (.int j0), .val (.int j1), .val (.int j2), .val (.int j3), .val (.int j4), .val (.int j5), .val (.ref b1), .val (.ref kd_6), .val sv_7, .val (.ref kd_9), .val sv_10] [(.int j2)])) _
    refine XS.iloadN X23.here hx rfl (hb hby at_95) rfl ?_
    show Steps p.tables e below (T23.setTop (mkF m 96 #[.val (.int j0), .val (.int j1), .val (.int j2), .val (.int j3), .val (.int j4), .val (.int j5), .val (.ref b1), .val (.ref kd_6), .val sv_7, .val (.ref kd_9), .val sv_10] [(.int j2), (.int j2)])) _
    refine XS.icmpNo X23.here hx rfl (hb hby at_96) rfl (teq rfl).2 ?_
    show Steps p.tables e below (T23.setTop (mkF m 99 #[.val (.int j0), .val (.int j1), .val (.int j2), .val (.int j3), .val (.int j4), .val (.int j5), .val (.ref b1), .val (.ref kd_6), .val sv_7, .val (.ref kd_9), .val sv_10] [])) _
    refine XS.aload X23.here hx rfl (hb hby at_99) rfl rfl ?_
    show Steps p.tables e below (T23.setTop (mkF m 101 #[.val (.int j0), .val (.int j1), .val (.int j2), .val (.int j3), .val (.int j4), .val (.int j5), .val (.ref b1), .val (.ref kd_6), .val sv_7, .val (.ref kd_9), .val sv_10] [(.ref b1)])) _
    refine st24.trans ?_
    show Steps p.tables e below (T24.setTop (mkF m 104 #[.val (.int j0), .val (.int j1), .val (.int j2), .val (.int j3), .val (.int j4), .val (.int j5), .val (.ref b1), .val (.ref kd_6), .val sv_7, .val (.ref kd_9), .val sv_10] [sv_10])) _
    refine XS.aload X24.here hx rfl (hb hby at_104) rfl po10_0 ?_
    show Steps p.tables e below (T24.setTop (mkF m 106 #[.val (.int j0), .val (.int j1), .val (.int j2), .val (.int j3), .val (.int j4), .val (.int j5), .val (.ref b1), .val (.ref kd_6), .val sv_7, .val (.ref kd_9), .val sv_10] [sv_10, sv_10])) _
    refine Jvm.RoadKit.acmp (g := (mkF m 106 #[.val (.int j0), .val (.int j1), .val (.int j2), .val (.int j3), .val (.int j4), .val (.int j5), .val (.ref b1), .val (.ref kd_6), .val sv_7, .val (.ref kd_9), .val sv_10] [sv_10, sv_10])) X24 hx rfl po10_0 po10_0 (pc0 := 106) (pc' := 109) (same := true) rfl (hb hby at_106) rfl (decide_eq_true rfl) (by decide) (by decide) ?_
    show Steps p.tables e below (T24.setTop (mkF m 109 #[.val (.int j0), .val (.int j1), .val (.int j2), .val (.int j3), .val (.int j4), .val (.int j5), .val (.ref b1), .val (.ref kd_6), .val sv_7, .val (.ref kd_9), .val sv_10] [])) _
    refine XS.iconst X24.here hx rfl (hb hby at_109) ?_
    show Steps p.tables e below (T24.setTop (mkF m 110 #[.val (.int j0), .val (.int j1), .val (.int j2), .val (.int j3), .val (.int j4), .val (.int j5), .val (.ref b1), .val (.ref kd_6), .val sv_7, .val (.ref kd_9), .val sv_10] [(.int (1 : Int32))])) _
    refine XS.goto X24.here hx rfl (pc0 := 110) (pc' := 114) rfl (hb hby at_110) (by decide) (by decide) ?_
    show Steps p.tables e below (T24.setTop (mkF m 114 #[.val (.int j0), .val (.int j1), .val (.int j2), .val (.int j3), .val (.int j4), .val (.int j5), .val (.ref b1), .val (.ref kd_6), .val sv_7, .val (.ref kd_9), .val sv_10] [(.int (1 : Int32))])) _
    exact retN X24 hx (t := .boolean) Bd.returns (by simp) (hb hby at_114) hr
  · show Q_own_law Z j0 j1 j2 j3 j4 j5 u0 u1 u2 u3 u4 u5 u6 u7 G1 h0 n0 _ T24.heap _
    rw [hh24]
    exact ⟨rfl, N24⟩
set_option maxRecDepth 65536 in
set_option maxHeartbeats 40000000 in
theorem comes_1 {Post : Tables → Env → Array Value → State → Outcome → State → Prop} (hpost : ∀ tb e args s v u, (limb_1_1.after args s (.returned v) u = true ∧ limb_1_2.after args s (.returned v) u = true ∧ True) → FrameEnd s (.returned v) u (Jvm.fieldLocs frame_1_writes args s ++ Jvm.arrayLocs frame_1_arrays args s ++ Jvm.staticLocs frame_1_statics s) 24 128 → Post tb e args s (.returned v) u) :
    ArmFor flags0 classFile x code maxLocals ret World_1 tables_1 room_1 Calls_1 rest_1 Pre_1 Post := by
  intro l hfl _ _ p e ha hc hk s m args below hf hA hF happ hP
  obtain ⟨hcalls, hrest, hpre⟩ := hP
  obtain ⟨-, -, -, hnamed, -, -, -, hat⟩ := (Spec.applies_iff hf).mp happ
  obtain ⟨hg, hn⟩ := and_e (Cond.before_iff.mp (show (Jvm.Cond.and given_1 narrow_1).before args s = true from hpre))
  obtain ⟨g0, g1⟩ := and_e hg
  obtain ⟨g1, g2⟩ := and_e g1
  obtain ⟨g2, g3⟩ := and_e g2
  obtain ⟨g3, g4⟩ := and_e g3
  obtain ⟨g4, g5⟩ := and_e g4
  obtain ⟨g5, g6⟩ := and_e g5
  obtain ⟨w0, w1, w2, w3, w4, w5, rfl⟩ : ∃ (w0 : Value) (w1 : Value) (w2 : Value) (w3 : Value) (w4 : Value) (w5 : Value), args = #[w0, w1, w2, w3, w4, w5] := by
    have hs : args.size = 6 := by simpa [Cond.value, given_1] using g0
    obtain ⟨L⟩ := args
    match L, hs with
    | [w0, w1, w2, w3, w4, w5], _ => exact ⟨w0, w1, w2, w3, w4, w5, rfl⟩
  have hw := fun d (hd : d ∈ tables_1) => atoms_spec (ws := Jvm.Cond.code x code maxLocals ret :: tables_1) hat d (List.mem_cons_of_mem _ hd)
  obtain ⟨hsets, hown0⟩ := atoms_of _ (rest_1_c_eq ▸ (show rest_1_c.before _ s = true from hrest))
  have hfit : Fit s := fun {y c} hc i hi => by
    obtain ⟨ha, rfl⟩ := Array.getElem?_eq_some_iff.mp hc
    have q := List.all_eq_true.mp ((Array.all_eq_true_iff_forall_mem.mp hF) _ (Array.getElem_mem ha)) i (List.mem_range.mpr hi)
    simpa [Array.getElem?_eq_getElem hi] using q
  obtain ⟨i0, ev0⟩ := is_v g1
  obtain rfl : w0 = (.int i0) := Option.some.inj ev0
  obtain ⟨i1, ev1⟩ := is_v g2
  obtain rfl : w1 = (.int i1) := Option.some.inj ev1
  obtain ⟨i2, ev2⟩ := is_v g3
  obtain rfl : w2 = (.int i2) := Option.some.inj ev2
  obtain ⟨i3, ev3⟩ := is_v g4
  obtain rfl : w3 = (.int i3) := Option.some.inj ev3
  obtain ⟨i4, ev4⟩ := is_v g5
  obtain rfl : w4 = (.int i4) := Option.some.inj ev4
  obtain ⟨i5, ev5⟩ := is_v g6
  obtain rfl : w5 = (.int i5) := Option.some.inj ev5
  obtain ⟨n0, hn1⟩ := and_e hn
  obtain ⟨n1, hn2⟩ := and_e hn1
  obtain ⟨n2, hn3⟩ := and_e hn2
  obtain ⟨n3, hn4⟩ := and_e hn3
  obtain ⟨n4, hn5⟩ := and_e hn4
  obtain ⟨n5, hn6⟩ := and_e hn5
  obtain ⟨n6, n7⟩ := and_e hn6
  obtain ⟨a_IDENTIFIER, ev_IDENTIFIER⟩ := exa_v n0
  have X_IDENTIFIER := Exa.start ev_IDENTIFIER n0
  have S_IDENTIFIER := Sta.start ev_IDENTIFIER (Or.inr ⟨(hw _ (List.mem_of_getElem? (i := 14) rfl)), (hw _ (List.mem_of_getElem? (i := 15) rfl))⟩)
  obtain ⟨a_DOC_COMMENT, ev_DOC_COMMENT⟩ := exa_v n1
  have X_DOC_COMMENT := Exa.start ev_DOC_COMMENT n1
  have S_DOC_COMMENT := Sta.start ev_DOC_COMMENT (Or.inr ⟨(hw _ (List.mem_of_getElem? (i := 14) rfl)), (hw _ (List.mem_of_getElem? (i := 81) rfl))⟩)
  obtain ⟨a_LEFT_PAREN, ev_LEFT_PAREN⟩ := exa_v n2
  have X_LEFT_PAREN := Exa.start ev_LEFT_PAREN n2
  have S_LEFT_PAREN := Sta.start ev_LEFT_PAREN (Or.inr ⟨(hw _ (List.mem_of_getElem? (i := 14) rfl)), (hw _ (List.mem_of_getElem? (i := 83) rfl))⟩)
  obtain ⟨a_KEYWORD, ev_KEYWORD⟩ := exa_v n3
  have X_KEYWORD := Exa.start ev_KEYWORD n3
  have S_KEYWORD := Sta.start ev_KEYWORD (Or.inr ⟨(hw _ (List.mem_of_getElem? (i := 14) rfl)), (hw _ (List.mem_of_getElem? (i := 85) rfl))⟩)
  obtain ⟨a_END, ev_END⟩ := exa_v n4
  have X_END := Exa.start ev_END n4
  have S_END := Sta.start ev_END (Or.inr ⟨(hw _ (List.mem_of_getElem? (i := 14) rfl)), (hw _ (List.mem_of_getElem? (i := 87) rfl))⟩)
  obtain ⟨a_INTEGER, ev_INTEGER⟩ := exa_v n5
  have X_INTEGER := Exa.start ev_INTEGER n5
  have S_INTEGER := Sta.start ev_INTEGER (Or.inr ⟨(hw _ (List.mem_of_getElem? (i := 14) rfl)), (hw _ (List.mem_of_getElem? (i := 89) rfl))⟩)
  obtain ⟨a_ARROW, ev_ARROW⟩ := exa_v n6
  have X_ARROW := Exa.start ev_ARROW n6
  have S_ARROW := Sta.start ev_ARROW (Or.inr ⟨(hw _ (List.mem_of_getElem? (i := 14) rfl)), (hw _ (List.mem_of_getElem? (i := 91) rfl))⟩)
  obtain ⟨a_STRING, ev_STRING⟩ := exa_v n7
  have X_STRING := Exa.start ev_STRING n7
  have S_STRING := Sta.start ev_STRING (Or.inr ⟨(hw _ (List.mem_of_getElem? (i := 14) rfl)), (hw _ (List.mem_of_getElem? (i := 93) rfl))⟩)
  obtain ⟨G1, eG1⟩ := is_v (Cond.before_iff.mp (hsets _ (List.mem_of_getElem? (i := 1) rfl)))
  have S_CS : Sta s s.heap "java/lang/String" "COMPACT_STRINGS" "Z" (.int G1) := Sta.start eG1 (Or.inl (hsets _ (List.mem_of_getElem? (i := 0) rfl)))
  have nG1 := not_v (Cond.before_iff.mp (hsets _ (List.mem_of_getElem? (i := 2) rfl)))
  have hG1 : ¬ (G1 = (0 : Int32)) := gotF (Cond.eq_ints eG1 (Term.int_eval (0))) nG1
  obtain ⟨n, o, h1, h2, h3, _, L, rfl, ⟨rfl, N⟩, hq⟩ := own_law l s _ hw tables_1 i0 i1 i2 i3 i4 i5 a_IDENTIFIER a_KEYWORD a_INTEGER a_STRING a_DOC_COMMENT a_LEFT_PAREN a_ARROW a_END G1 s.heap s.heap.size (Old.start s) S_IDENTIFIER S_KEYWORD S_INTEGER S_STRING S_DOC_COMMENT S_LEFT_PAREN S_ARROW S_END S_CS hG1 p e ha hc hk s m _ below hf ((Spec.applies_iff_loose hf).mp happ).1 ⟨rfl, State.Warmed39.refl s, rfl⟩ trivial
  refine ⟨n, _, h1, h2, h3, hpost _ _ _ _ _ _ ⟨Cond.after_iff.mpr rfl, Cond.after_iff.mpr (eq_i res_at (Term.int_eval (1)) rfl), trivial⟩ ⟨hq.1, hq.2.1, (hq.2.2.sift fun y hy => Or.inr (N y hy)).mono (by decide) (by decide)⟩⟩
theorem main_1_1 : Claimed_1_1 := comes_1 fun _ _ _ _ _ _ h hF => ⟨h.1, hF⟩
theorem main_1_2 : Claimed_1_2 := comes_1 fun _ _ _ _ _ _ h hF => ⟨h.2.1, hF⟩
end Jvm.Pilot.@@N@@
namespace Jvm.Pilot.@@N@@
open Jvm Jvm.ClassFile Sem Op Lib Jvm.Free Jvm.Stand Jvm.Pilot.@@N@@.Jvm.D
/-! MADE BY PROGRAM (witnessworld.py) out of the Statement's table words and the real class files: 22 classes; the members and pool entries that the words name. The judged class is class 1, her method 3. -/
namespace start1
open Jvm.ClassFile
def u (s : String) : CpInfo := .utf8 (stringToUtf16 s)
/-- a pool by its gaps: so many unusable entries, then the entry; so many at the end -/
def gap : Nat → List CpInfo → List CpInfo
  | 0, r => r
  | n + 1, r => .unusable :: gap n r
def poolList (es : List (Nat × CpInfo)) (last : Nat) : List CpInfo := es.foldr (fun e r => gap e.1 (e.2 :: r)) (gap last [])
def pool (es : List (Nat × CpInfo)) (last : Nat) : Array CpInfo := ⟨poolList es last⟩
def fileOf (pool : Array CpInfo) (this : Nat) (attrs : Array Attribute := #[]) (ms : Array MethodInfo := #[]) (fl : Nat := 33) (sup : Nat := 0) (ifs : Array Nat := #[]) (fds : Array FieldInfo := #[]) : ClassFile where
  minorVersion := 0
  majorVersion := 65
  constantPool := pool
  accessFlags := fl
  thisClass := this
  superClass := sup
  interfaces := ifs
  fields := fds
  methods := ms
  attributes := attrs
def plain (name : String) (sup : Option ClassId) : Class where
  name := name
  kind := .ordinary
  loader := none
  accessFlags := 33
  super := sup
  interfaces := #[]
  cf := none
  fields := #[]
  methods := #[]
  instanceTypes := #[]
  staticTypes := #[]
  resolved := #[]
  callSites := []
  init := .initialized
  statics := none
  mirror := none

def pool0 : Array CpInfo := pool [(5, u "<init>"), (0, u "()V"), (1, .class_ 10), (1, u "java/lang/Object")] 113

def k0c0 : Code := { maxStack := 0, maxLocals := 1, code := object_method_1_code, exceptionTable := #[], attributes := #[] }
def k0m0 : Method := { name := "<init>", desc := "()V", sig := { parameters := [], returnType := none }, accessFlags := 1, code := some k0c0 }
/-- java/lang/Object -/
def k0 : Class := { plain "java/lang/Object" none with
  accessFlags := 33
  interfaces := #[]
  cf := some (fileOf pool0 8 #[] #[{ accessFlags := 1, nameIndex := 5, descriptorIndex := 6, attributes := #[] }] 33 0 #[] #[])
  fields := #[]
  methods := #[k0m0]
  instanceTypes := #[]
  staticTypes := #[]
  resolved := Array.replicate 124 none
  statics := none }

def pool1 : Array CpInfo := pool [(2, .class_ 4), (0, .nameAndType 5 6), (0, u "java/lang/Object"), (0, u "<init>"), (0, u "()V"), (0, .fieldref 8 9), (0, .class_ 10), (0, .nameAndType 11 12), (0, u "com/example/interfold/interfold/slice/Token$Kind"), (0, u "IDENTIFIER"), (0, u "Lcom/example/interfold/interfold/slice/Token$Kind;"), (0, .fieldref 8 14), (0, .nameAndType 15 12), (0, u "KEYWORD"), (0, .fieldref 8 17), (0, .nameAndType 18 12), (0, u "INTEGER"), (0, .fieldref 8 20), (0, .nameAndType 21 12), (0, u "STRING"), (0, .fieldref 8 23), (0, .nameAndType 24 12), (0, u "DOC_COMMENT"), (0, .fieldref 8 26), (0, .nameAndType 27 12), (0, u "LEFT_PAREN"), (0, .fieldref 8 29), (0, .nameAndType 30 12), (0, u "ARROW"), (0, .fieldref 8 32), (0, .nameAndType 33 12), (0, u "END"), (0, .class_ 35), (0, u "java/lang/String"), (0, .methodref 34 37), (0, .nameAndType 5 38), (0, u "([C)V"), (0, .class_ 40), (0, u "com/example/interfold/interfold/slice/Token"), (0, .methodref 39 3), (0, .methodref 43 44), (0, .class_ 45), (0, .nameAndType 46 47), (0, u "com/example/interfold/interfold/slice/TokenSet141PinLaw"), (0, u "pick"), (0, u "(I)Lcom/example/interfold/interfold/slice/Token$Kind;"), (0, .methodref 43 49), (0, .nameAndType 50 51), (0, u "draw"), (0, u "(II)Ljava/lang/String;"), (0, .methodref 39 53), (0, .nameAndType 54 55), (0, u "set"), (0, u "(Lcom/example/interfold/interfold/slice/Token$Kind;IILjava/lang/String;)V"), (0, .methodref 39 57), (0, .nameAndType 58 59), (0, u "kind"), (0, u "()Lcom/example/interfold/interfold/slice/Token$Kind;"), (0, .methodref 39 61), (0, .nameAndType 62 63), (0, u "start"), (0, u "()I"), (0, .methodref 39 65), (0, .nameAndType 66 63), (0, u "end"), (0, .methodref 39 68), (0, .nameAndType 69 70), (0, u "value"), (0, u "()Ljava/lang/String;"), (3, u "law"), (0, u "(IIIIII)Z")] 4

def k1m0 : Method := { name := "<init>", desc := "()V", sig := { parameters := [], returnType := none }, accessFlags := 1, code := none }
def k1c1 : Code := { maxStack := 2, maxLocals := 2, code := method_2_code, exceptionTable := #[], attributes := #[] }
def k1m1 : Method := { name := "pick", desc := "(I)Lcom/example/interfold/interfold/slice/Token$Kind;", sig := { parameters := [.int], returnType := some (.object "com/example/interfold/interfold/slice/Token$Kind") }, accessFlags := 10, code := some k1c1 }
def k1c2 : Code := { maxStack := 4, maxLocals := 3, code := method_3_code, exceptionTable := #[], attributes := #[] }
def k1m2 : Method := { name := "draw", desc := "(II)Ljava/lang/String;", sig := { parameters := [.int, .int], returnType := some (.object "java/lang/String") }, accessFlags := 10, code := some k1c2 }
def k1c3 : Code := { maxStack := 5, maxLocals := 11, code := code, exceptionTable := #[], attributes := #[] }
def k1m3 : Method := { name := "law", desc := "(IIIIII)Z", sig := { parameters := [.int, .int, .int, .int, .int, .int], returnType := some .boolean }, accessFlags := 9, code := some k1c3 }
/-- com/example/interfold/interfold/slice/TokenSet141PinLaw -/
def k1 : Class := { plain "com/example/interfold/interfold/slice/TokenSet141PinLaw" (some 0) with
  accessFlags := 49
  interfaces := #[]
  cf := some (fileOf pool1 43 #[] #[{ accessFlags := 1, nameIndex := 5, descriptorIndex := 6, attributes := #[] }, { accessFlags := 10, nameIndex := 46, descriptorIndex := 47, attributes := #[] }, { accessFlags := 10, nameIndex := 50, descriptorIndex := 51, attributes := #[] }, { accessFlags := 9, nameIndex := 74, descriptorIndex := 75, attributes := #[] }] 49 2 #[] #[])
  fields := #[]
  methods := #[k1m0, k1m1, k1m2, k1m3]
  instanceTypes := #[]
  staticTypes := #[]
  resolved := Array.replicate 80 none
  statics := none }

def pool2 : Array CpInfo := pool [(1, .methodref 2 3), (0, .class_ 4), (0, .nameAndType 5 6), (0, u "java/lang/Object"), (0, u "<init>"), (0, u "()V"), (0, .fieldref 8 9), (0, .class_ 10), (0, .nameAndType 11 12), (0, u "com/example/interfold/interfold/slice/Token"), (0, u "kind"), (0, u "Lcom/example/interfold/interfold/slice/Token$Kind;"), (0, .fieldref 8 14), (0, .nameAndType 15 16), (0, u "start"), (0, u "I"), (0, .fieldref 8 18), (0, .nameAndType 19 16), (0, u "end"), (0, .fieldref 8 21), (0, .nameAndType 22 23), (0, u "value"), (0, u "Ljava/lang/String;"), (1, .class_ 27), (1, u "com/example/interfold/interfold/slice/Token$Kind"), (6, u "()Ljava/lang/String;"), (8, u "set"), (0, u "(Lcom/example/interfold/interfold/slice/Token$Kind;IILjava/lang/String;)V"), (0, u "()Lcom/example/interfold/interfold/slice/Token$Kind;"), (0, u "()I")] 8

def k2c0 : Code := { maxStack := 1, maxLocals := 1, code := prog_184_method_1_code, exceptionTable := #[], attributes := #[] }
def k2m0 : Method := { name := "<init>", desc := "()V", sig := { parameters := [], returnType := none }, accessFlags := 0, code := some k2c0 }
def k2c1 : Code := { maxStack := 2, maxLocals := 5, code := prog_184_method_2_code, exceptionTable := #[], attributes := #[] }
def k2m1 : Method := { name := "set", desc := "(Lcom/example/interfold/interfold/slice/Token$Kind;IILjava/lang/String;)V", sig := { parameters := [(.object "com/example/interfold/interfold/slice/Token$Kind"), .int, .int, (.object "java/lang/String")], returnType := none }, accessFlags := 0, code := some k2c1 }
def k2c2 : Code := { maxStack := 1, maxLocals := 1, code := prog_184_method_3_code, exceptionTable := #[], attributes := #[] }
def k2m2 : Method := { name := "kind", desc := "()Lcom/example/interfold/interfold/slice/Token$Kind;", sig := { parameters := [], returnType := some (.object "com/example/interfold/interfold/slice/Token$Kind") }, accessFlags := 0, code := some k2c2 }
def k2c3 : Code := { maxStack := 1, maxLocals := 1, code := prog_184_method_4_code, exceptionTable := #[], attributes := #[] }
def k2m3 : Method := { name := "start", desc := "()I", sig := { parameters := [], returnType := some .int }, accessFlags := 0, code := some k2c3 }
def k2c4 : Code := { maxStack := 1, maxLocals := 1, code := prog_184_method_5_code, exceptionTable := #[], attributes := #[] }
def k2m4 : Method := { name := "end", desc := "()I", sig := { parameters := [], returnType := some .int }, accessFlags := 0, code := some k2c4 }
def k2c5 : Code := { maxStack := 1, maxLocals := 1, code := prog_184_method_6_code, exceptionTable := #[], attributes := #[] }
def k2m5 : Method := { name := "value", desc := "()Ljava/lang/String;", sig := { parameters := [], returnType := some (.object "java/lang/String") }, accessFlags := 0, code := some k2c5 }
/-- com/example/interfold/interfold/slice/Token -/
def k2 : Class := { plain "com/example/interfold/interfold/slice/Token" (some 0) with
  accessFlags := 48
  interfaces := #[]
  cf := some (fileOf pool2 8 #[.nestMembers #[25]] #[{ accessFlags := 0, nameIndex := 5, descriptorIndex := 6, attributes := #[] }, { accessFlags := 0, nameIndex := 43, descriptorIndex := 44, attributes := #[] }, { accessFlags := 0, nameIndex := 11, descriptorIndex := 45, attributes := #[] }, { accessFlags := 0, nameIndex := 15, descriptorIndex := 46, attributes := #[] }, { accessFlags := 0, nameIndex := 19, descriptorIndex := 46, attributes := #[] }, { accessFlags := 0, nameIndex := 22, descriptorIndex := 34, attributes := #[] }] 48 2 #[] #[{ accessFlags := 2, nameIndex := 11, descriptorIndex := 12, attributes := #[] }, { accessFlags := 2, nameIndex := 15, descriptorIndex := 16, attributes := #[] }, { accessFlags := 2, nameIndex := 19, descriptorIndex := 16, attributes := #[] }, { accessFlags := 2, nameIndex := 22, descriptorIndex := 23, attributes := #[] }])
  fields := #[{ name := "kind", type := (.object "com/example/interfold/interfold/slice/Token$Kind"), accessFlags := 2, slot := 0, constantValue := 0 }, { name := "start", type := .int, accessFlags := 2, slot := 1, constantValue := 0 }, { name := "end", type := .int, accessFlags := 2, slot := 2, constantValue := 0 }, { name := "value", type := (.object "java/lang/String"), accessFlags := 2, slot := 3, constantValue := 0 }]
  methods := #[k2m0, k2m1, k2m2, k2m3, k2m4, k2m5]
  instanceTypes := #[(.object "com/example/interfold/interfold/slice/Token$Kind"), .int, .int, (.object "java/lang/String")]
  staticTypes := #[]
  resolved := Array.replicate 55 none
  statics := none }

def pool3 : Array CpInfo := pool [(1, .class_ 2), (0, u "java/lang/constant/Constable"), (0, .class_ 4), (0, u "java/lang/Object")] 6

/-- java/lang/constant/Constable -/
def k3 : Class := { plain "java/lang/constant/Constable" (some 0) with
  accessFlags := 1537
  interfaces := #[]
  cf := some (fileOf pool3 1 #[] #[] 1537 3 #[] #[])
  fields := #[]
  methods := #[]
  instanceTypes := #[]
  staticTypes := #[]
  resolved := Array.replicate 11 none
  statics := none }

def pool4 : Array CpInfo := pool [(1, .class_ 2), (0, u "java/lang/Comparable"), (0, .class_ 4), (0, u "java/lang/Object")] 7

/-- java/lang/Comparable -/
def k4 : Class := { plain "java/lang/Comparable" (some 0) with
  accessFlags := 1537
  interfaces := #[]
  cf := some (fileOf pool4 1 #[] #[] 1537 3 #[] #[])
  fields := #[]
  methods := #[]
  instanceTypes := #[]
  staticTypes := #[]
  resolved := Array.replicate 12 none
  statics := none }

def pool5 : Array CpInfo := pool [(1, .class_ 2), (0, u "java/io/Serializable"), (0, .class_ 4), (0, u "java/lang/Object")] 2

/-- java/io/Serializable -/
def k5 : Class := { plain "java/io/Serializable" (some 0) with
  accessFlags := 1537
  interfaces := #[]
  cf := some (fileOf pool5 1 #[] #[] 1537 3 #[] #[])
  fields := #[]
  methods := #[]
  instanceTypes := #[]
  staticTypes := #[]
  resolved := Array.replicate 7 none
  statics := none }

def pool6 : Array CpInfo := pool [(2, .class_ 4), (1, u "java/lang/Enum"), (0, u "name"), (0, u "Ljava/lang/String;"), (2, u "ordinal"), (0, u "I"), (1, .class_ 14), (1, u "java/lang/Object"), (4, u "hash"), (86, .class_ 108), (1, u "java/lang/Enum$EnumDesc"), (2, .class_ 112), (0, u "java/lang/constant/Constable"), (0, .class_ 114), (0, u "java/lang/Comparable"), (0, .class_ 116), (0, u "java/io/Serializable")] 87

/-- java/lang/Enum -/
def k6 : Class := { plain "java/lang/Enum" (some 0) with
  accessFlags := 1057
  interfaces := #[3, 4, 5]
  cf := some (fileOf pool6 2 #[.nestMembers #[106]] #[] 1057 12 #[111, 113, 115] #[{ accessFlags := 18, nameIndex := 5, descriptorIndex := 6, attributes := #[] }, { accessFlags := 18, nameIndex := 9, descriptorIndex := 10, attributes := #[] }, { accessFlags := 2, nameIndex := 19, descriptorIndex := 10, attributes := #[] }])
  fields := #[{ name := "name", type := (.object "java/lang/String"), accessFlags := 18, slot := 0, constantValue := 0 }, { name := "ordinal", type := .int, accessFlags := 18, slot := 1, constantValue := 0 }, { name := "hash", type := .int, accessFlags := 2, slot := 2, constantValue := 0 }]
  methods := #[]
  instanceTypes := #[(.object "java/lang/String"), .int, .int]
  staticTypes := #[]
  resolved := Array.replicate 204 none
  statics := none }

def pool7 : Array CpInfo := pool [(1, .class_ 2), (0, u "com/example/interfold/interfold/slice/Token$Kind"), (2, u "IDENTIFIER"), (0, u "Lcom/example/interfold/interfold/slice/Token$Kind;"), (2, u "KEYWORD"), (2, u "INTEGER"), (2, u "STRING"), (2, u "DOC_COMMENT"), (2, u "LEFT_PAREN"), (2, u "RIGHT_PAREN"), (2, u "LEFT_BRACE"), (2, u "RIGHT_BRACE"), (2, u "LEFT_BRACKET"), (2, u "RIGHT_BRACKET"), (2, u "LEFT_ANGLE"), (2, u "RIGHT_ANGLE"), (2, u "COMMA"), (2, u "COLON"), (2, u "SCOPE"), (2, u "EQUALS"), (2, u "QUESTION"), (2, u "ARROW"), (2, u "END"), (2, u "$VALUES"), (0, u "[Lcom/example/interfold/interfold/slice/Token$Kind;"), (6, .class_ 76), (1, u "java/lang/Enum"), (8, u "description"), (0, u "Ljava/lang/String;"), (81, .class_ 169), (0, u "com/example/interfold/interfold/slice/Token")] 2

/-- com/example/interfold/interfold/slice/Token$Kind -/
def k7 : Class := { plain "com/example/interfold/interfold/slice/Token$Kind" (some 6) with
  accessFlags := 16432
  interfaces := #[]
  cf := some (fileOf pool7 1 #[.nestHost 168] #[] 16432 74 #[] #[{ accessFlags := 16409, nameIndex := 5, descriptorIndex := 6, attributes := #[] }, { accessFlags := 16409, nameIndex := 9, descriptorIndex := 6, attributes := #[] }, { accessFlags := 16409, nameIndex := 12, descriptorIndex := 6, attributes := #[] }, { accessFlags := 16409, nameIndex := 15, descriptorIndex := 6, attributes := #[] }, { accessFlags := 16409, nameIndex := 18, descriptorIndex := 6, attributes := #[] }, { accessFlags := 16409, nameIndex := 21, descriptorIndex := 6, attributes := #[] }, { accessFlags := 16409, nameIndex := 24, descriptorIndex := 6, attributes := #[] }, { accessFlags := 16409, nameIndex := 27, descriptorIndex := 6, attributes := #[] }, { accessFlags := 16409, nameIndex := 30, descriptorIndex := 6, attributes := #[] }, { accessFlags := 16409, nameIndex := 33, descriptorIndex := 6, attributes := #[] }, { accessFlags := 16409, nameIndex := 36, descriptorIndex := 6, attributes := #[] }, { accessFlags := 16409, nameIndex := 39, descriptorIndex := 6, attributes := #[] }, { accessFlags := 16409, nameIndex := 42, descriptorIndex := 6, attributes := #[] }, { accessFlags := 16409, nameIndex := 45, descriptorIndex := 6, attributes := #[] }, { accessFlags := 16409, nameIndex := 48, descriptorIndex := 6, attributes := #[] }, { accessFlags := 16409, nameIndex := 51, descriptorIndex := 6, attributes := #[] }, { accessFlags := 16409, nameIndex := 54, descriptorIndex := 6, attributes := #[] }, { accessFlags := 16409, nameIndex := 57, descriptorIndex := 6, attributes := #[] }, { accessFlags := 16409, nameIndex := 60, descriptorIndex := 6, attributes := #[] }, { accessFlags := 16409, nameIndex := 63, descriptorIndex := 6, attributes := #[] }, { accessFlags := 18, nameIndex := 85, descriptorIndex := 86, attributes := #[] }, { accessFlags := 4122, nameIndex := 66, descriptorIndex := 67, attributes := #[] }])
  fields := #[{ name := "IDENTIFIER", type := (.object "com/example/interfold/interfold/slice/Token$Kind"), accessFlags := 16409, slot := 0, constantValue := 0 }, { name := "KEYWORD", type := (.object "com/example/interfold/interfold/slice/Token$Kind"), accessFlags := 16409, slot := 1, constantValue := 0 }, { name := "INTEGER", type := (.object "com/example/interfold/interfold/slice/Token$Kind"), accessFlags := 16409, slot := 2, constantValue := 0 }, { name := "STRING", type := (.object "com/example/interfold/interfold/slice/Token$Kind"), accessFlags := 16409, slot := 3, constantValue := 0 }, { name := "DOC_COMMENT", type := (.object "com/example/interfold/interfold/slice/Token$Kind"), accessFlags := 16409, slot := 4, constantValue := 0 }, { name := "LEFT_PAREN", type := (.object "com/example/interfold/interfold/slice/Token$Kind"), accessFlags := 16409, slot := 5, constantValue := 0 }, { name := "RIGHT_PAREN", type := (.object "com/example/interfold/interfold/slice/Token$Kind"), accessFlags := 16409, slot := 6, constantValue := 0 }, { name := "LEFT_BRACE", type := (.object "com/example/interfold/interfold/slice/Token$Kind"), accessFlags := 16409, slot := 7, constantValue := 0 }, { name := "RIGHT_BRACE", type := (.object "com/example/interfold/interfold/slice/Token$Kind"), accessFlags := 16409, slot := 8, constantValue := 0 }, { name := "LEFT_BRACKET", type := (.object "com/example/interfold/interfold/slice/Token$Kind"), accessFlags := 16409, slot := 9, constantValue := 0 }, { name := "RIGHT_BRACKET", type := (.object "com/example/interfold/interfold/slice/Token$Kind"), accessFlags := 16409, slot := 10, constantValue := 0 }, { name := "LEFT_ANGLE", type := (.object "com/example/interfold/interfold/slice/Token$Kind"), accessFlags := 16409, slot := 11, constantValue := 0 }, { name := "RIGHT_ANGLE", type := (.object "com/example/interfold/interfold/slice/Token$Kind"), accessFlags := 16409, slot := 12, constantValue := 0 }, { name := "COMMA", type := (.object "com/example/interfold/interfold/slice/Token$Kind"), accessFlags := 16409, slot := 13, constantValue := 0 }, { name := "COLON", type := (.object "com/example/interfold/interfold/slice/Token$Kind"), accessFlags := 16409, slot := 14, constantValue := 0 }, { name := "SCOPE", type := (.object "com/example/interfold/interfold/slice/Token$Kind"), accessFlags := 16409, slot := 15, constantValue := 0 }, { name := "EQUALS", type := (.object "com/example/interfold/interfold/slice/Token$Kind"), accessFlags := 16409, slot := 16, constantValue := 0 }, { name := "QUESTION", type := (.object "com/example/interfold/interfold/slice/Token$Kind"), accessFlags := 16409, slot := 17, constantValue := 0 }, { name := "ARROW", type := (.object "com/example/interfold/interfold/slice/Token$Kind"), accessFlags := 16409, slot := 18, constantValue := 0 }, { name := "END", type := (.object "com/example/interfold/interfold/slice/Token$Kind"), accessFlags := 16409, slot := 19, constantValue := 0 }, { name := "description", type := (.object "java/lang/String"), accessFlags := 18, slot := 3, constantValue := 0 }, { name := "$VALUES", type := (.array (.object "com/example/interfold/interfold/slice/Token$Kind")), accessFlags := 4122, slot := 20, constantValue := 0 }]
  methods := #[]
  instanceTypes := #[(.object "java/lang/String"), .int, .int, (.object "java/lang/String")]
  staticTypes := #[(.object "com/example/interfold/interfold/slice/Token$Kind"), (.object "com/example/interfold/interfold/slice/Token$Kind"), (.object "com/example/interfold/interfold/slice/Token$Kind"), (.object "com/example/interfold/interfold/slice/Token$Kind"), (.object "com/example/interfold/interfold/slice/Token$Kind"), (.object "com/example/interfold/interfold/slice/Token$Kind"), (.object "com/example/interfold/interfold/slice/Token$Kind"), (.object "com/example/interfold/interfold/slice/Token$Kind"), (.object "com/example/interfold/interfold/slice/Token$Kind"), (.object "com/example/interfold/interfold/slice/Token$Kind"), (.object "com/example/interfold/interfold/slice/Token$Kind"), (.object "com/example/interfold/interfold/slice/Token$Kind"), (.object "com/example/interfold/interfold/slice/Token$Kind"), (.object "com/example/interfold/interfold/slice/Token$Kind"), (.object "com/example/interfold/interfold/slice/Token$Kind"), (.object "com/example/interfold/interfold/slice/Token$Kind"), (.object "com/example/interfold/interfold/slice/Token$Kind"), (.object "com/example/interfold/interfold/slice/Token$Kind"), (.object "com/example/interfold/interfold/slice/Token$Kind"), (.object "com/example/interfold/interfold/slice/Token$Kind"), (.array (.object "com/example/interfold/interfold/slice/Token$Kind"))]
  resolved := Array.replicate 172 none
  statics := some 0 }

def pool8 : Array CpInfo := pool [(2, .class_ 4), (1, u "java/lang/CharSequence"), (42, .class_ 48), (0, u "java/lang/CharSequence$1CodePointIterator"), (10, .class_ 60), (0, u "java/lang/CharSequence$1CharIterator"), (5, .class_ 67), (0, u "java/lang/Object")] 63

/-- java/lang/CharSequence -/
def k8 : Class := { plain "java/lang/CharSequence" (some 0) with
  accessFlags := 1537
  interfaces := #[]
  cf := some (fileOf pool8 2 #[.nestMembers #[47, 59]] #[] 1537 66 #[] #[])
  fields := #[]
  methods := #[]
  instanceTypes := #[]
  staticTypes := #[]
  resolved := Array.replicate 131 none
  statics := none }

def pool9 : Array CpInfo := pool [(1, .class_ 2), (0, u "java/lang/constant/ConstantDesc"), (0, .class_ 4), (0, u "java/lang/Object")] 32

/-- java/lang/constant/ConstantDesc -/
def k9 : Class := { plain "java/lang/constant/ConstantDesc" (some 0) with
  accessFlags := 1537
  interfaces := #[]
  cf := some (fileOf pool9 1 #[] #[] 1537 3 #[] #[])
  fields := #[]
  methods := #[]
  instanceTypes := #[]
  staticTypes := #[]
  resolved := Array.replicate 37 none
  statics := none }

def pool10 : Array CpInfo := pool [(1, .methodref 2 3), (0, .class_ 4), (0, .nameAndType 5 6), (0, u "java/lang/Object"), (0, u "<init>"), (0, u "()V"), (2, .fieldref 10 11), (0, .class_ 12), (0, .nameAndType 13 14), (0, u "java/lang/String"), (0, u "value"), (0, u "[B"), (0, .fieldref 10 16), (0, .nameAndType 17 18), (0, u "coder"), (0, u "B"), (2, u "hash"), (0, u "I"), (2, u "hashIsZero"), (0, u "Z"), (0, .methodref 10 28), (0, .nameAndType 5 29), (0, u "([CIILjava/lang/Void;)V"), (8, .fieldref 10 39), (0, .nameAndType 40 26), (0, u "COMPACT_STRINGS"), (1, .class_ 44), (1, u "java/lang/StringUTF16"), (0, u "compress"), (1, .methodref 42 48), (0, .nameAndType 49 50), (0, u "coderFromArrayLen"), (0, u "([BI)B"), (126, .methodref 42 178), (0, .nameAndType 45 179), (0, u "([CII)[B"), (395, .class_ 576), (0, u "java/lang/CharSequence"), (22, u "CASE_INSENSITIVE_ORDER"), (0, u "Ljava/util/Comparator;"), (409, u "([C)V"), (90, u "serialPersistentFields"), (0, u "[Ljava/io/ObjectStreamField;"), (0, .class_ 1104), (0, u "java/lang/String$CaseInsensitiveComparator"), (1, .class_ 1107), (0, u "java/io/Serializable"), (0, .class_ 1109), (0, u "java/lang/Comparable"), (0, .class_ 1111), (0, u "java/lang/constant/Constable"), (0, .class_ 1113), (0, u "java/lang/constant/ConstantDesc"), (2, u "serialVersionUID"), (0, u "J"), (3, u "REPL"), (0, u "C"), (2, u "LATIN1"), (1, u "UTF16")] 323

def k10m0 : Method := { name := "<init>", desc := "()V", sig := { parameters := [], returnType := none }, accessFlags := 1, code := none }
def k10c1 : Code := { maxStack := 5, maxLocals := 2, code := jdk_42_method_3_code, exceptionTable := #[], attributes := #[] }
def k10m1 : Method := { name := "<init>", desc := "([C)V", sig := { parameters := [(.array .char)], returnType := none }, accessFlags := 1, code := some k10c1 }
def k10c2 : Code := { maxStack := 4, maxLocals := 6, code := jdk_42_method_149_code, exceptionTable := #[], attributes := #[] }
def k10m2 : Method := { name := "<init>", desc := "([CIILjava/lang/Void;)V", sig := { parameters := [(.array .char), .int, .int, (.object "java/lang/Void")], returnType := none }, accessFlags := 2, code := some k10c2 }
/-- java/lang/String -/
def k10 : Class := { plain "java/lang/String" (some 0) with
  accessFlags := 49
  interfaces := #[5, 4, 8, 3, 9]
  cf := some (fileOf pool10 10 #[.nestMembers #[1103]] #[{ accessFlags := 1, nameIndex := 5, descriptorIndex := 6, attributes := #[] }, { accessFlags := 1, nameIndex := 5, descriptorIndex := 1010, attributes := #[] }, { accessFlags := 2, nameIndex := 5, descriptorIndex := 29, attributes := #[] }] 49 2 #[1106, 1108, 575, 1110, 1112] #[{ accessFlags := 18, nameIndex := 13, descriptorIndex := 14, attributes := #[] }, { accessFlags := 18, nameIndex := 17, descriptorIndex := 18, attributes := #[] }, { accessFlags := 2, nameIndex := 21, descriptorIndex := 22, attributes := #[] }, { accessFlags := 2, nameIndex := 25, descriptorIndex := 26, attributes := #[] }, { accessFlags := 26, nameIndex := 1116, descriptorIndex := 1117, attributes := #[] }, { accessFlags := 24, nameIndex := 40, descriptorIndex := 26, attributes := #[] }, { accessFlags := 26, nameIndex := 1101, descriptorIndex := 1102, attributes := #[] }, { accessFlags := 26, nameIndex := 1121, descriptorIndex := 1122, attributes := #[] }, { accessFlags := 25, nameIndex := 599, descriptorIndex := 600, attributes := #[] }, { accessFlags := 24, nameIndex := 1125, descriptorIndex := 18, attributes := #[] }, { accessFlags := 24, nameIndex := 1127, descriptorIndex := 18, attributes := #[] }])
  fields := #[{ name := "value", type := (.array .byte), accessFlags := 18, slot := 0, constantValue := 0 }, { name := "coder", type := .byte, accessFlags := 18, slot := 1, constantValue := 0 }, { name := "hash", type := .int, accessFlags := 2, slot := 2, constantValue := 0 }, { name := "hashIsZero", type := .boolean, accessFlags := 2, slot := 3, constantValue := 0 }, { name := "serialVersionUID", type := .long, accessFlags := 26, slot := 0, constantValue := 0 }, { name := "COMPACT_STRINGS", type := .boolean, accessFlags := 24, slot := 1, constantValue := 0 }, { name := "serialPersistentFields", type := (.array (.object "java/io/ObjectStreamField")), accessFlags := 26, slot := 2, constantValue := 0 }, { name := "REPL", type := .char, accessFlags := 26, slot := 3, constantValue := 0 }, { name := "CASE_INSENSITIVE_ORDER", type := (.object "java/util/Comparator"), accessFlags := 25, slot := 4, constantValue := 0 }, { name := "LATIN1", type := .byte, accessFlags := 24, slot := 5, constantValue := 0 }, { name := "UTF16", type := .byte, accessFlags := 24, slot := 6, constantValue := 0 }]
  methods := #[k10m0, k10m1, k10m2]
  instanceTypes := #[(.array .byte), .byte, .int, .boolean]
  staticTypes := #[.long, .boolean, (.array (.object "java/io/ObjectStreamField")), .char, (.object "java/util/Comparator"), .byte, .byte]
  resolved := Array.replicate 1451 none
  statics := some 1 }

def pool11 : Array CpInfo := pool [(6, .class_ 8), (1, u "java/lang/Object"), (0, u "<init>"), (0, u "()V"), (1, .class_ 14), (1, u "java/lang/StringUTF16"), (31, u "$assertionsDisabled"), (0, u "Z"), (13, u "HI_BYTE_SHIFT"), (0, u "I"), (2, u "LO_BYTE_SHIFT"), (49, .methodref 12 116), (0, .nameAndType 117 118), (0, u "compress"), (0, u "([CI[BII)I"), (3, u "([CII)[B"), (138, u "coderFromArrayLen"), (0, u "([BI)B"), (106, .class_ 371), (1, u "java/lang/StringUTF16$LinesSpliterator"), (58, u "MAX_LENGTH"), (196, .class_ 628), (0, u "java/lang/StringUTF16$CodePointsSpliterator"), (0, .class_ 630), (0, u "java/lang/StringUTF16$CharsSpliterator")] 4

def k11m0 : Method := { name := "<init>", desc := "()V", sig := { parameters := [], returnType := none }, accessFlags := 0, code := none }
def k11c1 : Code := { maxStack := 2, maxLocals := 2, code := jdk_52_method_15_code, exceptionTable := #[], attributes := #[] }
def k11m1 : Method := { name := "coderFromArrayLen", desc := "([BI)B", sig := { parameters := [(.array .byte), .int], returnType := some .byte }, accessFlags := 8, code := some k11c1 }
def k11c2 : Code := { maxStack := 5, maxLocals := 6, code := jdk_52_method_16_code, exceptionTable := #[], attributes := #[] }
def k11m2 : Method := { name := "compress", desc := "([CII)[B", sig := { parameters := [(.array .char), .int, .int], returnType := some (.array .byte) }, accessFlags := 9, code := some k11c2 }
def k11c3 : Code := { maxStack := 3, maxLocals := 7, code := jdk_52_method_21_code, exceptionTable := #[], attributes := #[] }
def k11m3 : Method := { name := "compress", desc := "([CI[BII)I", sig := { parameters := [(.array .char), .int, (.array .byte), .int, .int], returnType := some .int }, accessFlags := 9, code := some k11c3 }
/-- java/lang/StringUTF16 -/
def k11 : Class := { plain "java/lang/StringUTF16" (some 0) with
  accessFlags := 48
  interfaces := #[]
  cf := some (fileOf pool11 12 #[.nestMembers #[627, 629, 369]] #[{ accessFlags := 0, nameIndex := 9, descriptorIndex := 10, attributes := #[] }, { accessFlags := 8, nameIndex := 261, descriptorIndex := 262, attributes := #[] }, { accessFlags := 9, nameIndex := 117, descriptorIndex := 122, attributes := #[] }, { accessFlags := 9, nameIndex := 117, descriptorIndex := 118, attributes := #[] }] 48 6 #[] #[{ accessFlags := 26, nameIndex := 61, descriptorIndex := 62, attributes := #[] }, { accessFlags := 26, nameIndex := 65, descriptorIndex := 62, attributes := #[] }, { accessFlags := 24, nameIndex := 430, descriptorIndex := 62, attributes := #[] }, { accessFlags := 4120, nameIndex := 46, descriptorIndex := 47, attributes := #[] }])
  fields := #[{ name := "HI_BYTE_SHIFT", type := .int, accessFlags := 26, slot := 0, constantValue := 0 }, { name := "LO_BYTE_SHIFT", type := .int, accessFlags := 26, slot := 1, constantValue := 0 }, { name := "MAX_LENGTH", type := .int, accessFlags := 24, slot := 2, constantValue := 0 }, { name := "$assertionsDisabled", type := .boolean, accessFlags := 4120, slot := 3, constantValue := 0 }]
  methods := #[k11m0, k11m1, k11m2, k11m3]
  instanceTypes := #[]
  staticTypes := #[.int, .int, .int, .boolean]
  resolved := Array.replicate 635 none
  statics := none }

def pool12 : Array CpInfo := pool [(4, .class_ 6), (1, u "java/lang/Object"), (0, u "<init>"), (0, u "()V"), (5, .class_ 16), (1, u "java/lang/StringLatin1"), (104, u "$assertionsDisabled"), (0, u "Z"), (98, .class_ 223), (1, u "java/lang/StringLatin1$LinesSpliterator"), (166, .class_ 391), (0, u "java/lang/StringLatin1$CharsSpliterator")] 3

def k12m0 : Method := { name := "<init>", desc := "()V", sig := { parameters := [], returnType := none }, accessFlags := 0, code := none }
/-- java/lang/StringLatin1 -/
def k12 : Class := { plain "java/lang/StringLatin1" (some 0) with
  accessFlags := 48
  interfaces := #[]
  cf := some (fileOf pool12 14 #[.nestMembers #[390, 221]] #[{ accessFlags := 0, nameIndex := 7, descriptorIndex := 8, attributes := #[] }] 48 4 #[] #[{ accessFlags := 4120, nameIndex := 121, descriptorIndex := 122, attributes := #[] }])
  fields := #[{ name := "$assertionsDisabled", type := .boolean, accessFlags := 4120, slot := 0, constantValue := 0 }]
  methods := #[k12m0]
  instanceTypes := #[]
  staticTypes := #[.boolean]
  resolved := Array.replicate 395 none
  statics := none }

def pool13 : Array CpInfo := pool [(2, .class_ 4), (1, u "java/lang/Object"), (0, u "<init>"), (0, u "()V"), (17, .class_ 26), (1, u "jdk/internal/util/Preconditions"), (28, .class_ 56), (0, u "jdk/internal/util/Preconditions$4"), (57, .class_ 115), (0, u "jdk/internal/util/Preconditions$1"), (7, u "SIOOBE_FORMATTER"), (0, u "Ljava/util/function/BiFunction;"), (0, .class_ 126), (0, u "jdk/internal/util/Preconditions$2"), (3, u "AIOOBE_FORMATTER"), (0, .class_ 132), (0, u "jdk/internal/util/Preconditions$3"), (3, u "IOOBE_FORMATTER")] 57

def k13m0 : Method := { name := "<init>", desc := "()V", sig := { parameters := [], returnType := none }, accessFlags := 1, code := none }
/-- jdk/internal/util/Preconditions -/
def k13 : Class := { plain "jdk/internal/util/Preconditions" (some 0) with
  accessFlags := 33
  interfaces := #[]
  cf := some (fileOf pool13 24 #[.nestMembers #[55, 131, 125, 114]] #[{ accessFlags := 1, nameIndex := 5, descriptorIndex := 6, attributes := #[] }] 33 2 #[] #[{ accessFlags := 25, nameIndex := 123, descriptorIndex := 124, attributes := #[] }, { accessFlags := 25, nameIndex := 130, descriptorIndex := 124, attributes := #[] }, { accessFlags := 25, nameIndex := 136, descriptorIndex := 124, attributes := #[] }])
  fields := #[{ name := "SIOOBE_FORMATTER", type := (.object "java/util/function/BiFunction"), accessFlags := 25, slot := 0, constantValue := 0 }, { name := "AIOOBE_FORMATTER", type := (.object "java/util/function/BiFunction"), accessFlags := 25, slot := 1, constantValue := 0 }, { name := "IOOBE_FORMATTER", type := (.object "java/util/function/BiFunction"), accessFlags := 25, slot := 2, constantValue := 0 }]
  methods := #[k13m0]
  instanceTypes := #[]
  staticTypes := #[(.object "java/util/function/BiFunction"), (.object "java/util/function/BiFunction"), (.object "java/util/function/BiFunction")]
  resolved := Array.replicate 194 none
  statics := some 2 }

def pool14 : Array CpInfo := pool [(9, u "<init>"), (6, .class_ 18), (1, u "java/lang/Object"), (0, u "()V"), (1, .class_ 23), (1, u "jdk/internal/util/ArraysSupport"), (0, u "LOG2_ARRAY_LONG_INDEX_SCALE"), (0, u "I"), (2, u "U"), (0, u "Ljdk/internal/misc/Unsafe;"), (8, u "BIG_ENDIAN"), (0, u "Z"), (8, u "LOG2_BYTE_BIT_SIZE"), (4, u "LOG2_ARRAY_INT_INDEX_SCALE"), (54, u "JLA"), (0, u "Ljdk/internal/access/JavaLangAccess;"), (11, u "LOG2_ARRAY_BOOLEAN_INDEX_SCALE"), (9, u "LOG2_ARRAY_BYTE_INDEX_SCALE"), (5, u "LOG2_ARRAY_CHAR_INDEX_SCALE"), (5, u "LOG2_ARRAY_SHORT_INDEX_SCALE"), (18, u "LOG2_ARRAY_FLOAT_INDEX_SCALE"), (24, u "LOG2_ARRAY_DOUBLE_INDEX_SCALE"), (89, u "T_BOOLEAN"), (2, u "T_CHAR"), (1, u "T_FLOAT"), (1, u "T_DOUBLE"), (1, u "T_BYTE"), (1, u "T_SHORT"), (1, u "T_INT"), (1, u "T_LONG"), (1, u "SOFT_MAX_ARRAY_LENGTH")] 83

def k14m0 : Method := { name := "<init>", desc := "()V", sig := { parameters := [], returnType := none }, accessFlags := 2, code := none }
/-- jdk/internal/util/ArraysSupport -/
def k14 : Class := { plain "jdk/internal/util/ArraysSupport" (some 0) with
  accessFlags := 33
  interfaces := #[]
  cf := some (fileOf pool14 21 #[] #[{ accessFlags := 2, nameIndex := 9, descriptorIndex := 19, attributes := #[] }] 33 16 #[] #[{ accessFlags := 24, nameIndex := 28, descriptorIndex := 29, attributes := #[] }, { accessFlags := 26, nameIndex := 38, descriptorIndex := 39, attributes := #[] }, { accessFlags := 25, nameIndex := 121, descriptorIndex := 25, attributes := #[] }, { accessFlags := 25, nameIndex := 131, descriptorIndex := 25, attributes := #[] }, { accessFlags := 25, nameIndex := 137, descriptorIndex := 25, attributes := #[] }, { accessFlags := 25, nameIndex := 143, descriptorIndex := 25, attributes := #[] }, { accessFlags := 25, nameIndex := 53, descriptorIndex := 25, attributes := #[] }, { accessFlags := 25, nameIndex := 24, descriptorIndex := 25, attributes := #[] }, { accessFlags := 25, nameIndex := 162, descriptorIndex := 25, attributes := #[] }, { accessFlags := 25, nameIndex := 187, descriptorIndex := 25, attributes := #[] }, { accessFlags := 26, nameIndex := 48, descriptorIndex := 25, attributes := #[] }, { accessFlags := 25, nameIndex := 277, descriptorIndex := 25, attributes := #[] }, { accessFlags := 25, nameIndex := 280, descriptorIndex := 25, attributes := #[] }, { accessFlags := 25, nameIndex := 282, descriptorIndex := 25, attributes := #[] }, { accessFlags := 25, nameIndex := 284, descriptorIndex := 25, attributes := #[] }, { accessFlags := 25, nameIndex := 286, descriptorIndex := 25, attributes := #[] }, { accessFlags := 25, nameIndex := 288, descriptorIndex := 25, attributes := #[] }, { accessFlags := 25, nameIndex := 290, descriptorIndex := 25, attributes := #[] }, { accessFlags := 25, nameIndex := 292, descriptorIndex := 25, attributes := #[] }, { accessFlags := 26, nameIndex := 108, descriptorIndex := 109, attributes := #[] }, { accessFlags := 25, nameIndex := 294, descriptorIndex := 25, attributes := #[] }])
  fields := #[{ name := "U", type := (.object "jdk/internal/misc/Unsafe"), accessFlags := 24, slot := 0, constantValue := 0 }, { name := "BIG_ENDIAN", type := .boolean, accessFlags := 26, slot := 1, constantValue := 0 }, { name := "LOG2_ARRAY_BOOLEAN_INDEX_SCALE", type := .int, accessFlags := 25, slot := 2, constantValue := 0 }, { name := "LOG2_ARRAY_BYTE_INDEX_SCALE", type := .int, accessFlags := 25, slot := 3, constantValue := 0 }, { name := "LOG2_ARRAY_CHAR_INDEX_SCALE", type := .int, accessFlags := 25, slot := 4, constantValue := 0 }, { name := "LOG2_ARRAY_SHORT_INDEX_SCALE", type := .int, accessFlags := 25, slot := 5, constantValue := 0 }, { name := "LOG2_ARRAY_INT_INDEX_SCALE", type := .int, accessFlags := 25, slot := 6, constantValue := 0 }, { name := "LOG2_ARRAY_LONG_INDEX_SCALE", type := .int, accessFlags := 25, slot := 7, constantValue := 0 }, { name := "LOG2_ARRAY_FLOAT_INDEX_SCALE", type := .int, accessFlags := 25, slot := 8, constantValue := 0 }, { name := "LOG2_ARRAY_DOUBLE_INDEX_SCALE", type := .int, accessFlags := 25, slot := 9, constantValue := 0 }, { name := "LOG2_BYTE_BIT_SIZE", type := .int, accessFlags := 26, slot := 10, constantValue := 0 }, { name := "T_BOOLEAN", type := .int, accessFlags := 25, slot := 11, constantValue := 0 }, { name := "T_CHAR", type := .int, accessFlags := 25, slot := 12, constantValue := 0 }, { name := "T_FLOAT", type := .int, accessFlags := 25, slot := 13, constantValue := 0 }, { name := "T_DOUBLE", type := .int, accessFlags := 25, slot := 14, constantValue := 0 }, { name := "T_BYTE", type := .int, accessFlags := 25, slot := 15, constantValue := 0 }, { name := "T_SHORT", type := .int, accessFlags := 25, slot := 16, constantValue := 0 }, { name := "T_INT", type := .int, accessFlags := 25, slot := 17, constantValue := 0 }, { name := "T_LONG", type := .int, accessFlags := 25, slot := 18, constantValue := 0 }, { name := "JLA", type := (.object "jdk/internal/access/JavaLangAccess"), accessFlags := 26, slot := 19, constantValue := 0 }, { name := "SOFT_MAX_ARRAY_LENGTH", type := .int, accessFlags := 25, slot := 20, constantValue := 0 }]
  methods := #[k14m0]
  instanceTypes := #[]
  staticTypes := #[(.object "jdk/internal/misc/Unsafe"), .boolean, .int, .int, .int, .int, .int, .int, .int, .int, .int, .int, .int, .int, .int, .int, .int, .int, .int, (.object "jdk/internal/access/JavaLangAccess"), .int]
  resolved := Array.replicate 378 none
  statics := none }

def pool15 : Array CpInfo := pool [(1, u "java/lang/Cloneable"), (0, .class_ 1), (0, u "java/lang/Object"), (0, .class_ 3)] 3

/-- java/lang/Cloneable -/
def k15 : Class := { plain "java/lang/Cloneable" (some 0) with
  accessFlags := 1537
  interfaces := #[]
  cf := some (fileOf pool15 2 #[] #[] 1537 4 #[] #[])
  fields := #[]
  methods := #[]
  instanceTypes := #[]
  staticTypes := #[]
  resolved := Array.replicate 8 none
  statics := none }

/-- the primitive byte -/
def k16 : Class := { plain "byte" none with kind := .primitive 'B', accessFlags := 0x411 }
/-- [B -/
def k17 : Class := { plain "[B" (some 0) with kind := .array 16 .byte, interfaces := #[15, 5], accessFlags := 1041 }

/-- the primitive char -/
def k18 : Class := { plain "char" none with kind := .primitive 'C', accessFlags := 0x411 }
/-- [C -/
def k19 : Class := { plain "[C" (some 0) with kind := .array 18 .char, interfaces := #[15, 5], accessFlags := 1041 }

/-- the primitive int -/
def k20 : Class := { plain "int" none with kind := .primitive 'I', accessFlags := 0x411 }
/-- [I -/
def k21 : Class := { plain "[I" (some 0) with kind := .array 20 .int, interfaces := #[15, 5], accessFlags := 1041 }

def heap : Heap := #[{ cls := 7, slots := #[.ref 3, .ref 6, .ref 8, .ref 10, .ref 4, .ref 5, .null, .null, .null, .null, .null, .null, .null, .null, .null, .null, .null, .null, .ref 9, .ref 7, .null], vm := .statics 7 },
  { cls := 10, slots := #[.long 0, .int 1, .null, .int 0, .null, .int 0, .int 0], vm := .statics 10 },
  { cls := 13, slots := #[.null, .null, .null], vm := .statics 13 },
  { cls := 7, slots := #[.null, .int 0, .int 0, .null], vm := .none },
  { cls := 7, slots := #[.null, .int 0, .int 0, .null], vm := .none },
  { cls := 7, slots := #[.null, .int 0, .int 0, .null], vm := .none },
  { cls := 7, slots := #[.null, .int 0, .int 0, .null], vm := .none },
  { cls := 7, slots := #[.null, .int 0, .int 0, .null], vm := .none },
  { cls := 7, slots := #[.null, .int 0, .int 0, .null], vm := .none },
  { cls := 7, slots := #[.null, .int 0, .int 0, .null], vm := .none },
  { cls := 7, slots := #[.null, .int 0, .int 0, .null], vm := .none }]
def classes : Array Class := #[k0, k1, k2, k3, k4, k5, k6, k7, k8, k9, k10, k11, k12, k13, k14, k15, k16, k17, k18, k19, k20, k21]
def interned : List (Array UInt16 × Addr) := []
def slotsUsed : Nat := 63
def theMethod : MethodId := ⟨1, 3⟩
def args0 : Array Value := #[.int 5, .int 5, .int 5, .int 5, .int 5, .int 5]
def aboutOver (below : List Frame) : State where
  vm := { classes := classes, interned := interned.toArray }
  heap := heap
  slotsUsed := slotsUsed
  threads := #[{ frames := .invoking theMethod args0 :: below }]
def below0 : List Frame := [.native { method := ⟨0, 0⟩, args := #[] }]
def about1 : State := aboutOver below0
def p0 : Program := .bare "" "" ""
def e0 : Env := launch0.env 0 0 0
theorem w_frames : about1.frames = Frame.invoking theMethod args0 :: below0 := rfl
set_option maxRecDepth 65536 in
theorem w_args : argsFit about1.vm theMethod args0 = true := by decide +kernel
set_option maxRecDepth 65536 in
theorem w_heap : heapFits about1 = true := by decide +kernel
set_option maxRecDepth 65536 in
theorem w_runnable : about1.curStatus? = some .runnable := by decide +kernel
set_option maxRecDepth 65536 in
theorem w_alone : about1.alone = true := by decide +kernel
set_option maxRecDepth 65536 in
theorem w_named : about1.methodNamed? x = some theMethod := by decide +kernel
set_option maxRecDepth 65536 in
theorem w_hears : about1.hears theMethod below0 = true := by decide +kernel
set_option maxRecDepth 65536 in
theorem w_ripe : about1.ripe theMethod args0 below0 = true := by decide +kernel
theorem w_running : about1.status = .running := rfl
set_option maxRecDepth 65536 in
theorem w_room : about1.hasRoom e0.platform room_1 = true :=
  launch0.hasRoom_least _ room_1 (by decide +kernel) (by decide +kernel) (by decide +kernel) (by decide +kernel) (by decide +kernel) (by decide +kernel)
theorem allAtoms_all (ts : List Jvm.Cond) (a : Array Jvm.Value) (st : Jvm.State) : (allAtoms ts).before a st = ts.all (fun c => c.before a st) := by
  induction ts with
  | nil => rfl
  | cons c t ih =>
    show (Jvm.Cond.and c (allAtoms t)).before a st = _
    rw [Jvm.Cond.before_and, ih, List.all_cons]
def words1 : List Jvm.Cond := Jvm.Cond.code x code maxLocals ret :: tables_1
/-- a 'code' word, met by the world's own term for the bytes: nothing is compared byte by byte -/
theorem code_word {y : MethodName} {bytes : ByteArray} {mx : Nat} {rt : Option FieldType} {a : Array Value} {s : State} {m : MethodId} {meth : Method} {c : Code} (h1 : s.methodNamed? y = some m) (h2 : s.vm.method? m = some meth) (h3 : meth.code = some c) (h4 : c.code = bytes)
    (h5 : (c.maxLocals == mx && c.exceptionTable.isEmpty && decide (c.maxStack ≤ mostOperands) && decide (meth.sig.returnType = rt) && !meth.locks && decide (parseMethodDescriptor y.desc = some meth.sig)) = true) : (Jvm.Cond.code y bytes mx rt).before a s = true := by
  simp only [Bool.and_eq_true, beq_iff_eq, Bool.not_eq_true', decide_eq_true_eq] at h5
  obtain ⟨⟨⟨⟨⟨g1, g2⟩, g3⟩, g4⟩, g5⟩, g6⟩ := h5
  simp [Cond.before, Cond.holds, Cond.value, h1, h2, h3, h4, g1, g2, g3, g4, g5, g6]
def isCode : Jvm.Cond → Bool
  | .code _ _ _ _ => true
  | _ => false
theorem all_split {L : List Jvm.Cond} {P : Jvm.Cond → Bool} (h1 : L.all (fun c => isCode c || P c) = true) (h2 : ∀ c ∈ L.filter isCode, P c = true) : L.all P = true := by
  refine List.all_eq_true.mpr fun c hc => ?_
  have h := List.all_eq_true.mp h1 c hc
  rcases Bool.eq_false_or_eq_true (isCode c) with hi | hi
  · exact h2 c (List.mem_filter.mpr ⟨hc, hi⟩)
  · simpa [hi] using h
set_option maxRecDepth 65536 in
theorem w_c0 : (Jvm.Cond.code x code maxLocals ret).before args0 about1 = true := code_word (m := ⟨1, 3⟩) (meth := k1m3) (c := k1c3) (by decide +kernel) rfl rfl rfl (by decide +kernel)
set_option maxRecDepth 65536 in
theorem w_c1 : (Jvm.Cond.code ({ cls := "com/example/interfold/interfold/slice/Token", name := "<init>", desc := "()V" } : Jvm.MethodName) prog_184_method_1_code (1 : Nat) (Option.none : Option Jvm.ClassFile.FieldType)).before args0 about1 = true := code_word (m := ⟨2, 0⟩) (meth := k2m0) (c := k2c0) (by decide +kernel) rfl rfl rfl (by decide +kernel)
set_option maxRecDepth 65536 in
theorem w_c2 : (Jvm.Cond.code ({ cls := "java/lang/Object", name := "<init>", desc := "()V" } : Jvm.MethodName) object_method_1_code (1 : Nat) (Option.none : Option Jvm.ClassFile.FieldType)).before args0 about1 = true := code_word (m := ⟨0, 0⟩) (meth := k0m0) (c := k0c0) (by decide +kernel) rfl rfl rfl (by decide +kernel)
set_option maxRecDepth 65536 in
theorem w_c3 : (Jvm.Cond.code ({ cls := "com/example/interfold/interfold/slice/TokenSet141PinLaw", name := "pick", desc := "(I)Lcom/example/interfold/interfold/slice/Token$Kind;" } : Jvm.MethodName) method_2_code (2 : Nat) (Option.some (Jvm.ClassFile.FieldType.object "com/example/interfold/interfold/slice/Token$Kind"))).before args0 about1 = true := code_word (m := ⟨1, 1⟩) (meth := k1m1) (c := k1c1) (by decide +kernel) rfl rfl rfl (by decide +kernel)
set_option maxRecDepth 65536 in
theorem w_c4 : (Jvm.Cond.code ({ cls := "com/example/interfold/interfold/slice/TokenSet141PinLaw", name := "draw", desc := "(II)Ljava/lang/String;" } : Jvm.MethodName) method_3_code (3 : Nat) (Option.some (Jvm.ClassFile.FieldType.object "java/lang/String"))).before args0 about1 = true := code_word (m := ⟨1, 2⟩) (meth := k1m2) (c := k1c2) (by decide +kernel) rfl rfl rfl (by decide +kernel)
set_option maxRecDepth 65536 in
theorem w_c5 : (Jvm.Cond.code ({ cls := "java/lang/String", name := "<init>", desc := "([C)V" } : Jvm.MethodName) jdk_42_method_3_code (2 : Nat) (Option.none : Option Jvm.ClassFile.FieldType)).before args0 about1 = true := code_word (m := ⟨10, 1⟩) (meth := k10m1) (c := k10c1) (by decide +kernel) rfl rfl rfl (by decide +kernel)
set_option maxRecDepth 65536 in
theorem w_c6 : (Jvm.Cond.code ({ cls := "java/lang/String", name := "<init>", desc := "([CIILjava/lang/Void;)V" } : Jvm.MethodName) jdk_42_method_149_code (6 : Nat) (Option.none : Option Jvm.ClassFile.FieldType)).before args0 about1 = true := code_word (m := ⟨10, 2⟩) (meth := k10m2) (c := k10c2) (by decide +kernel) rfl rfl rfl (by decide +kernel)
set_option maxRecDepth 65536 in
theorem w_c7 : (Jvm.Cond.code ({ cls := "java/lang/StringUTF16", name := "compress", desc := "([CII)[B" } : Jvm.MethodName) jdk_52_method_16_code (6 : Nat) (Option.some (Jvm.ClassFile.FieldType.array Jvm.ClassFile.FieldType.byte))).before args0 about1 = true := code_word (m := ⟨11, 2⟩) (meth := k11m2) (c := k11c2) (by decide +kernel) rfl rfl rfl (by decide +kernel)
set_option maxRecDepth 65536 in
theorem w_c8 : (Jvm.Cond.code ({ cls := "java/lang/StringUTF16", name := "compress", desc := "([CI[BII)I" } : Jvm.MethodName) jdk_52_method_21_code (7 : Nat) (Option.some Jvm.ClassFile.FieldType.int)).before args0 about1 = true := code_word (m := ⟨11, 3⟩) (meth := k11m3) (c := k11c3) (by decide +kernel) rfl rfl rfl (by decide +kernel)
set_option maxRecDepth 65536 in
theorem w_c9 : (Jvm.Cond.code ({ cls := "java/lang/StringUTF16", name := "coderFromArrayLen", desc := "([BI)B" } : Jvm.MethodName) jdk_52_method_15_code (2 : Nat) (Option.some Jvm.ClassFile.FieldType.byte)).before args0 about1 = true := code_word (m := ⟨11, 1⟩) (meth := k11m1) (c := k11c1) (by decide +kernel) rfl rfl rfl (by decide +kernel)
set_option maxRecDepth 65536 in
theorem w_c10 : (Jvm.Cond.code ({ cls := "com/example/interfold/interfold/slice/Token", name := "set", desc := "(Lcom/example/interfold/interfold/slice/Token$Kind;IILjava/lang/String;)V" } : Jvm.MethodName) prog_184_method_2_code (5 : Nat) (Option.none : Option Jvm.ClassFile.FieldType)).before args0 about1 = true := code_word (m := ⟨2, 1⟩) (meth := k2m1) (c := k2c1) (by decide +kernel) rfl rfl rfl (by decide +kernel)
set_option maxRecDepth 65536 in
theorem w_c11 : (Jvm.Cond.code ({ cls := "com/example/interfold/interfold/slice/Token", name := "kind", desc := "()Lcom/example/interfold/interfold/slice/Token$Kind;" } : Jvm.MethodName) prog_184_method_3_code (1 : Nat) (Option.some (Jvm.ClassFile.FieldType.object "com/example/interfold/interfold/slice/Token$Kind"))).before args0 about1 = true := code_word (m := ⟨2, 2⟩) (meth := k2m2) (c := k2c2) (by decide +kernel) rfl rfl rfl (by decide +kernel)
set_option maxRecDepth 65536 in
theorem w_c12 : (Jvm.Cond.code ({ cls := "com/example/interfold/interfold/slice/Token", name := "start", desc := "()I" } : Jvm.MethodName) prog_184_method_4_code (1 : Nat) (Option.some Jvm.ClassFile.FieldType.int)).before args0 about1 = true := code_word (m := ⟨2, 3⟩) (meth := k2m3) (c := k2c3) (by decide +kernel) rfl rfl rfl (by decide +kernel)
set_option maxRecDepth 65536 in
theorem w_c13 : (Jvm.Cond.code ({ cls := "com/example/interfold/interfold/slice/Token", name := "end", desc := "()I" } : Jvm.MethodName) prog_184_method_5_code (1 : Nat) (Option.some Jvm.ClassFile.FieldType.int)).before args0 about1 = true := code_word (m := ⟨2, 4⟩) (meth := k2m4) (c := k2c4) (by decide +kernel) rfl rfl rfl (by decide +kernel)
set_option maxRecDepth 65536 in
theorem w_c14 : (Jvm.Cond.code ({ cls := "com/example/interfold/interfold/slice/Token", name := "value", desc := "()Ljava/lang/String;" } : Jvm.MethodName) prog_184_method_6_code (1 : Nat) (Option.some (Jvm.ClassFile.FieldType.object "java/lang/String"))).before args0 about1 = true := code_word (m := ⟨2, 5⟩) (meth := k2m5) (c := k2c5) (by decide +kernel) rfl rfl rfl (by decide +kernel)
def codes1 : List Jvm.Cond := [Jvm.Cond.code x code maxLocals ret, Jvm.Cond.code ({ cls := "com/example/interfold/interfold/slice/Token", name := "<init>", desc := "()V" } : Jvm.MethodName) prog_184_method_1_code (1 : Nat) (Option.none : Option Jvm.ClassFile.FieldType), Jvm.Cond.code ({ cls := "java/lang/Object", name := "<init>", desc := "()V" } : Jvm.MethodName) object_method_1_code (1 : Nat) (Option.none : Option Jvm.ClassFile.FieldType), Jvm.Cond.code ({ cls := "com/example/interfold/interfold/slice/TokenSet141PinLaw", name := "pick", desc := "(I)Lcom/example/interfold/interfold/slice/Token$Kind;" } : Jvm.MethodName) method_2_code (2 : Nat) (Option.some (Jvm.ClassFile.FieldType.object "com/example/interfold/interfold/slice/Token$Kind")), Jvm.Cond.code ({ cls := "com/example/interfold/interfold/slice/TokenSet141PinLaw", name := "draw", desc := "(II)Ljava/lang/String;" } : Jvm.MethodName) method_3_code (3 : Nat) (Option.some (Jvm.ClassFile.FieldType.object "java/lang/String")), Jvm.Cond.code ({ cls := "java/lang/String", name := "<init>", desc := "([C)V" } : Jvm.MethodName) jdk_42_method_3_code (2 : Nat) (Option.none : Option Jvm.ClassFile.FieldType), Jvm.Cond.code ({ cls := "java/lang/String", name := "<init>", desc := "([CIILjava/lang/Void;)V" } : Jvm.MethodName) jdk_42_method_149_code (6 : Nat) (Option.none : Option Jvm.ClassFile.FieldType), Jvm.Cond.code ({ cls := "java/lang/StringUTF16", name := "compress", desc := "([CII)[B" } : Jvm.MethodName) jdk_52_method_16_code (6 : Nat) (Option.some (Jvm.ClassFile.FieldType.array Jvm.ClassFile.FieldType.byte)), Jvm.Cond.code ({ cls := "java/lang/StringUTF16", name := "compress", desc := "([CI[BII)I" } : Jvm.MethodName) jdk_52_method_21_code (7 : Nat) (Option.some Jvm.ClassFile.FieldType.int), Jvm.Cond.code ({ cls := "java/lang/StringUTF16", name := "coderFromArrayLen", desc := "([BI)B" } : Jvm.MethodName) jdk_52_method_15_code (2 : Nat) (Option.some Jvm.ClassFile.FieldType.byte), Jvm.Cond.code ({ cls := "com/example/interfold/interfold/slice/Token", name := "set", desc := "(Lcom/example/interfold/interfold/slice/Token$Kind;IILjava/lang/String;)V" } : Jvm.MethodName) prog_184_method_2_code (5 : Nat) (Option.none : Option Jvm.ClassFile.FieldType), Jvm.Cond.code ({ cls := "com/example/interfold/interfold/slice/Token", name := "kind", desc := "()Lcom/example/interfold/interfold/slice/Token$Kind;" } : Jvm.MethodName) prog_184_method_3_code (1 : Nat) (Option.some (Jvm.ClassFile.FieldType.object "com/example/interfold/interfold/slice/Token$Kind")), Jvm.Cond.code ({ cls := "com/example/interfold/interfold/slice/Token", name := "start", desc := "()I" } : Jvm.MethodName) prog_184_method_4_code (1 : Nat) (Option.some Jvm.ClassFile.FieldType.int), Jvm.Cond.code ({ cls := "com/example/interfold/interfold/slice/Token", name := "end", desc := "()I" } : Jvm.MethodName) prog_184_method_5_code (1 : Nat) (Option.some Jvm.ClassFile.FieldType.int), Jvm.Cond.code ({ cls := "com/example/interfold/interfold/slice/Token", name := "value", desc := "()Ljava/lang/String;" } : Jvm.MethodName) prog_184_method_6_code (1 : Nat) (Option.some (Jvm.ClassFile.FieldType.object "java/lang/String"))]
set_option maxRecDepth 65536 in
theorem codes_eq : words1.filter isCode = codes1 := rfl
theorem w_codes : ∀ c ∈ words1.filter isCode, c.before args0 about1 = true := by
  rw [codes_eq]
  intro c hc
  simp only [codes1, List.mem_cons, List.not_mem_nil, or_false] at hc
  rcases hc with rfl | rfl | rfl | rfl | rfl | rfl | rfl | rfl | rfl | rfl | rfl | rfl | rfl | rfl | rfl
  · exact w_c0
  · exact w_c1
  · exact w_c2
  · exact w_c3
  · exact w_c4
  · exact w_c5
  · exact w_c6
  · exact w_c7
  · exact w_c8
  · exact w_c9
  · exact w_c10
  · exact w_c11
  · exact w_c12
  · exact w_c13
  · exact w_c14
set_option maxRecDepth 65536 in
theorem w_t1 : (words1.take 24).all (fun c => isCode c || c.before args0 about1) = true := by decide +kernel
set_option maxRecDepth 65536 in
theorem w_t2 : ((words1.drop 24).take 24).all (fun c => isCode c || c.before args0 about1) = true := by decide +kernel
set_option maxRecDepth 65536 in
theorem w_t3 : (((words1.drop 24).drop 24).take 24).all (fun c => isCode c || c.before args0 about1) = true := by decide +kernel
set_option maxRecDepth 65536 in
theorem w_t4 : (((words1.drop 24).drop 24).drop 24).all (fun c => isCode c || c.before args0 about1) = true := by decide +kernel
theorem w_tables : (allAtoms (Jvm.Cond.code x code maxLocals ret :: tables_1)).before args0 about1 = true := by
  rw [allAtoms_all]
  show words1.all (fun c => c.before args0 about1) = true
  refine all_split ?_ w_codes
  rw [← List.take_append_drop 24 words1, List.all_append, w_t1, ← List.take_append_drop 24 (words1.drop 24), List.all_append, w_t2, ← List.take_append_drop 24 ((words1.drop 24).drop 24), List.all_append, w_t3, w_t4]
  rfl
set_option maxRecDepth 65536 in
theorem w_rest : rest_1_c.before args0 about1 = true := by decide +kernel
set_option maxRecDepth 65536 in
theorem w_case : (Jvm.Cond.and given_1 narrow_1).before args0 about1 = true := by decide +kernel
theorem w_applies : (headSpec (Jvm.Cond.code x code maxLocals ret :: tables_1) room_1).applies x e0.platform about1 = true :=
  (Spec.applies_iff w_frames).mpr ⟨w_running, w_runnable, w_alone, w_named, w_hears, w_ripe, w_room, w_tables⟩
theorem atStart : AtStart classFile x code maxLocals ret World_1 tables_1 room_1 Calls_1 rest_1 Pre_1 launch0 p0 e0 about1 theMethod args0 below0 :=
  ⟨lists_1, trivial, launch0.admits_env _ _ _, launch0.least_env, fairChoices_fair.cas, fairChoices_fair.clock, w_frames, w_args, w_heap, w_applies, trivial, w_rest, w_case⟩
end start1
theorem witness_1 : WitnessClaimed_1 := ⟨start1.p0, start1.e0, start1.about1, start1.theMethod, start1.args0, start1.below0, start1.atStart⟩
end Jvm.Pilot.@@N@@
